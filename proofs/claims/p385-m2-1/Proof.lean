import JvmDerived
import JvmDerived.Pilot.@@N@@Statement
import JvmDerived.Pilot.@@N@@Code
set_option linter.unusedVariables false
set_option linter.unusedSimpArgs false
namespace Jvm.Pilot.@@N@@
open Jvm Jvm.ClassFile Sem Op Lib Jvm.Free Jvm.Stand Jvm.LawKit Jvm.RoadKit Bundle Jvm.Pilot.@@N@@.Jvm.D
section Own
variable {Z : State} {own nm : String} {bytes : ByteArray} {ml : Nat} {ret : Option FieldType} {R : Room} {n0 : Nat} {Q : Option Value → Heap → Prop} {k n : Nat} {h : Heap} {pc q r : Nat} {L L' : Array Slot} {S S' : List Value} {a0 : Array Value}
/-- what a body's own record says of it -/
def oCtx (p : Program) (s : State) (m : MethodId) (meth : Method) (c : Code) (Z : State) (own nm : String) (bytes : ByteArray) (ml : Nat) (ret : Option FieldType) : Prop :=
  p.tables.exec = Jvm.exec ∧ Z.Warmed39 s.vm ∧ c.code = bytes ∧ c.maxLocals = ml ∧ s.vm.findClass own = some m.cls ∧ meth.sig.returnType = ret ∧ meth.locks = false ∧ meth.name = nm
/-- from here on the body comes to its end, and there Q holds; nothing old is written -/
def oGo (Z : State) (own nm : String) (bytes : ByteArray) (ml : Nat) (ret : Option FieldType) (R : Room) (n0 : Nat) (Q : Option Value → Heap → Prop) (k n : Nat) (h : Heap) (pc : Nat) (L : Array Slot) (S : List Value) : Prop :=
  ∀ (p : Program) (l : Launch) (e : Env) (s : State) (m : MethodId) (args : Array Value) (below : List Frame) (meth : Method) (c : Code) (T : State) (locs : List Loc),
    oCtx p s m meth c Z own nm bytes ml ret → Stand p l e R s m args below meth c T locs k n → T.heap = h → Fr n0 locs →
    ∃ s₂ o, Steps p.tables e below (T.setTop (mkF m pc L S)) s₂ ∧ s₂.status = .running ∧ Ended s₂ below o ∧ ∃ v L', o = .returned v ∧ (Q v s₂.heap ∧ Fr n0 L') ∧ FrameEnd s o s₂ L' R.cells R.slots
/-- a body's contract -/
def oCon (Z : State) (y : MethodName) (bytes : ByteArray) (ml : Nat) (ret : Option FieldType) (rm : Room) (as : Array Value) (h : Heap) (n0 : Nat) (Q : Option Value → Heap → Prop) : Prop :=
  ∀ (l : Launch) (ws : List Jvm.Cond), MetFree l y (head1 (Jvm.Cond.code y bytes ml ret :: ws) rm) (fun a U => a = as ∧ Z.Warmed39 U.vm ∧ U.heap = h) (fun _ _ _ _ _ => True) (fun _ U o U' => ∃ v L, o = .returned v ∧ (Q v U'.heap ∧ Fr n0 L) ∧ FrameEnd U o U' L rm.cells rm.slots)
theorem oCon.of {y : MethodName} {rm : Room} {as : Array Value} {L0 : Array Slot} (hp : plainFor y = true) (he : ∀ m, entryFrame m as ml = mkF m 0 L0 []) (K : oGo Z y.cls y.name bytes ml ret rm n0 Q 0 0 h 0 L0 []) : oCon Z y bytes ml ret rm as h n0 Q := by
  intro l ws
  refine MetFree.of_bodySF hp hisR ?_
  intro p e s m args below meth c s₁ Bd hml0 hP hK
  obtain ⟨rfl, hZ, hh⟩ := hP
  have e0 : s₁.heap = h := by rw [← hh, Bd.state]; rfl
  obtain ⟨s₂, o, h1, h2, h3, h4⟩ := K p l e s m args below meth c s₁ [] ⟨Bd.exec, hZ, Bd.bytes, hml0, findClass_of_methodNamed Bd.named, Bd.returns, Bd.notSynchronized, (name_of_methodNamed Bd.named Bd.method).1⟩ (Stand.of_body Bd) e0 (Fr.nil n0)
  exact ⟨s₂, o, castTop (he m) h1, h2, h3, h4⟩
theorem oGo.more {k' n' : Nat} (hk : k ≤ k') (hn : n ≤ n') (K : oGo Z own nm bytes ml ret R n0 Q k' n' h pc L S) : oGo Z own nm bytes ml ret R n0 Q k n h pc L S :=
  fun p l e s m args below meth c T locs C X eT N => K p l e s m args below meth c T locs C (X.more hk hn) eT N
theorem oGo.st (H : ∀ (p : Program) (e : Env) (m : MethodId) (below : List Frame) (c : Code) (T : State), p.tables.exec = Jvm.exec → c.code = bytes → At T m c below → ∀ t, Steps p.tables e below (T.setTop (mkF m q L' S')) t → Steps p.tables e below (T.setTop (mkF m pc L S)) t) (K : oGo Z own nm bytes ml ret R n0 Q k n h q L' S') : oGo Z own nm bytes ml ret R n0 Q k n h pc L S :=
  fun p l e s m args below meth c T locs C X eT N => by
    obtain ⟨s₂, o, h1, r⟩ := K p l e s m args below meth c T locs C X eT N
    exact ⟨s₂, o, H p e m below c T C.1 C.2.2.1 X.here s₂ h1, r⟩
theorem oGo.iadd {x y : Int32} (hd : decode bytes pc = .ok (.iadd, 1)) (hq : pc + 1 = q) (K : oGo Z own nm bytes ml ret R n0 Q k n h q L (.int (x + y) :: S)) : oGo Z own nm bytes ml ret R n0 Q k n h pc L (.int y :: .int x :: S) := by
  subst hq; exact oGo.st (fun p e m below c T hx hby hA t k => XS.iadd hA hx rfl (hb hby hd) rfl k) K
theorem oGo.isub {x y : Int32} (hd : decode bytes pc = .ok (.isub, 1)) (hq : pc + 1 = q) (K : oGo Z own nm bytes ml ret R n0 Q k n h q L (.int (x - y) :: S)) : oGo Z own nm bytes ml ret R n0 Q k n h pc L (.int y :: .int x :: S) := by
  subst hq; exact oGo.st (fun p e m below c T hx hby hA t k => XS.isub hA hx rfl (hb hby hd) rfl k) K
theorem oGo.imul {x y : Int32} (hd : decode bytes pc = .ok (.imul, 1)) (hq : pc + 1 = q) (K : oGo Z own nm bytes ml ret R n0 Q k n h q L (.int (x * y) :: S)) : oGo Z own nm bytes ml ret R n0 Q k n h pc L (.int y :: .int x :: S) := by
  subst hq; exact oGo.st (fun p e m below c T hx hby hA t k => XS.imul hA hx rfl (hb hby hd) rfl k) K
theorem oGo.iand {x y : Int32} (hd : decode bytes pc = .ok (.iand, 1)) (hq : pc + 1 = q) (K : oGo Z own nm bytes ml ret R n0 Q k n h q L (.int (x &&& y) :: S)) : oGo Z own nm bytes ml ret R n0 Q k n h pc L (.int y :: .int x :: S) := by
  subst hq; exact oGo.st (fun p e m below c T hx hby hA t k => XS.iand hA hx rfl (hb hby hd) rfl k) K
theorem oGo.ior {x y : Int32} (hd : decode bytes pc = .ok (.ior, 1)) (hq : pc + 1 = q) (K : oGo Z own nm bytes ml ret R n0 Q k n h q L (.int (x ||| y) :: S)) : oGo Z own nm bytes ml ret R n0 Q k n h pc L (.int y :: .int x :: S) := by
  subst hq; exact oGo.st (fun p e m below c T hx hby hA t k => XS.ior hA hx rfl (hb hby hd) rfl k) K
theorem oGo.ixor {x y : Int32} (hd : decode bytes pc = .ok (.ixor, 1)) (hq : pc + 1 = q) (K : oGo Z own nm bytes ml ret R n0 Q k n h q L (.int (x ^^^ y) :: S)) : oGo Z own nm bytes ml ret R n0 Q k n h pc L (.int y :: .int x :: S) := by
  subst hq; exact oGo.st (fun p e m below c T hx hby hA t k => XS.ixor hA hx rfl (hb hby hd) rfl k) K
theorem oGo.ishl {x y : Int32} (hd : decode bytes pc = .ok (.ishl, 1)) (hq : pc + 1 = q) (K : oGo Z own nm bytes ml ret R n0 Q k n h q L (.int (x <<< (y &&& 31)) :: S)) : oGo Z own nm bytes ml ret R n0 Q k n h pc L (.int y :: .int x :: S) := by
  subst hq; exact oGo.st (fun p e m below c T hx hby hA t k => XS.ishl hA hx rfl (hb hby hd) rfl k) K
theorem oGo.ishr {x y : Int32} (hd : decode bytes pc = .ok (.ishr, 1)) (hq : pc + 1 = q) (K : oGo Z own nm bytes ml ret R n0 Q k n h q L (.int (x >>> (y &&& 31)) :: S)) : oGo Z own nm bytes ml ret R n0 Q k n h pc L (.int y :: .int x :: S) := by
  subst hq; exact oGo.st (fun p e m below c T hx hby hA t k => XS.ishr hA hx rfl (hb hby hd) rfl k) K
theorem oGo.iushr {x y : Int32} (hd : decode bytes pc = .ok (.iushr, 1)) (hq : pc + 1 = q) (K : oGo Z own nm bytes ml ret R n0 Q k n h q L (.int ((x.toUInt32 >>> (y &&& 31).toUInt32).toInt32) :: S)) : oGo Z own nm bytes ml ret R n0 Q k n h pc L (.int y :: .int x :: S) := by
  subst hq; exact oGo.st (fun p e m below c T hx hby hA t k => XS.iushr hA hx rfl (hb hby hd) rfl k) K
theorem oGo.ladd {x y : Int64} (hd : decode bytes pc = .ok (.ladd, 1)) (hq : pc + 1 = q) (K : oGo Z own nm bytes ml ret R n0 Q k n h q L (.long (x + y) :: S)) : oGo Z own nm bytes ml ret R n0 Q k n h pc L (.long y :: .long x :: S) := by
  subst hq; exact oGo.st (fun p e m below c T hx hby hA t k => XS.ladd hA hx rfl (hb hby hd) rfl k) K
theorem oGo.lsub {x y : Int64} (hd : decode bytes pc = .ok (.lsub, 1)) (hq : pc + 1 = q) (K : oGo Z own nm bytes ml ret R n0 Q k n h q L (.long (x - y) :: S)) : oGo Z own nm bytes ml ret R n0 Q k n h pc L (.long y :: .long x :: S) := by
  subst hq; exact oGo.st (fun p e m below c T hx hby hA t k => XS.lsub hA hx rfl (hb hby hd) rfl k) K
theorem oGo.lmul {x y : Int64} (hd : decode bytes pc = .ok (.lmul, 1)) (hq : pc + 1 = q) (K : oGo Z own nm bytes ml ret R n0 Q k n h q L (.long (x * y) :: S)) : oGo Z own nm bytes ml ret R n0 Q k n h pc L (.long y :: .long x :: S) := by
  subst hq; exact oGo.st (fun p e m below c T hx hby hA t k => XS.lmul hA hx rfl (hb hby hd) rfl k) K
theorem oGo.land {x y : Int64} (hd : decode bytes pc = .ok (.land, 1)) (hq : pc + 1 = q) (K : oGo Z own nm bytes ml ret R n0 Q k n h q L (.long (x &&& y) :: S)) : oGo Z own nm bytes ml ret R n0 Q k n h pc L (.long y :: .long x :: S) := by
  subst hq; exact oGo.st (fun p e m below c T hx hby hA t k => XS.land hA hx rfl (hb hby hd) rfl k) K
theorem oGo.lor {x y : Int64} (hd : decode bytes pc = .ok (.lor, 1)) (hq : pc + 1 = q) (K : oGo Z own nm bytes ml ret R n0 Q k n h q L (.long (x ||| y) :: S)) : oGo Z own nm bytes ml ret R n0 Q k n h pc L (.long y :: .long x :: S) := by
  subst hq; exact oGo.st (fun p e m below c T hx hby hA t k => XS.lor hA hx rfl (hb hby hd) rfl k) K
theorem oGo.lxor {x y : Int64} (hd : decode bytes pc = .ok (.lxor, 1)) (hq : pc + 1 = q) (K : oGo Z own nm bytes ml ret R n0 Q k n h q L (.long (x ^^^ y) :: S)) : oGo Z own nm bytes ml ret R n0 Q k n h pc L (.long y :: .long x :: S) := by
  subst hq; exact oGo.st (fun p e m below c T hx hby hA t k => XS.lxor hA hx rfl (hb hby hd) rfl k) K
theorem oGo.lshl {x : Int64} {y : Int32} (hd : decode bytes pc = .ok (.lshl, 1)) (hq : pc + 1 = q) (K : oGo Z own nm bytes ml ret R n0 Q k n h q L (.long (x <<< (y &&& 0x3f).toInt64) :: S)) : oGo Z own nm bytes ml ret R n0 Q k n h pc L (.int y :: .long x :: S) := by
  subst hq; exact oGo.st (fun p e m below c T hx hby hA t k => XS.lshl hA hx rfl (hb hby hd) rfl k) K
theorem oGo.lshr {x : Int64} {y : Int32} (hd : decode bytes pc = .ok (.lshr, 1)) (hq : pc + 1 = q) (K : oGo Z own nm bytes ml ret R n0 Q k n h q L (.long (x >>> (y &&& 0x3f).toInt64) :: S)) : oGo Z own nm bytes ml ret R n0 Q k n h pc L (.int y :: .long x :: S) := by
  subst hq; exact oGo.st (fun p e m below c T hx hby hA t k => XS.lshr hA hx rfl (hb hby hd) rfl k) K
theorem oGo.lushr {x : Int64} {y : Int32} (hd : decode bytes pc = .ok (.lushr, 1)) (hq : pc + 1 = q) (K : oGo Z own nm bytes ml ret R n0 Q k n h q L (.long ((x.toUInt64 >>> (y &&& 0x3f).toInt64.toUInt64).toInt64) :: S)) : oGo Z own nm bytes ml ret R n0 Q k n h pc L (.int y :: .long x :: S) := by
  subst hq; exact oGo.st (fun p e m below c T hx hby hA t k => XS.lushr hA hx rfl (hb hby hd) rfl k) K
theorem oGo.idiv {x y : Int32} (hd : decode bytes pc = .ok (.idiv, 1)) (hq : pc + 1 = q) (hy : y ≠ 0) (K : oGo Z own nm bytes ml ret R n0 Q k n h q L (.int (x / y) :: S)) : oGo Z own nm bytes ml ret R n0 Q k n h pc L (.int y :: .int x :: S) := by
  subst hq; exact oGo.st (fun p e m below c T hx hby hA t k => XS.idiv hA hx rfl (hb hby hd) rfl hy k) K
theorem oGo.ldiv {x y : Int64} (hd : decode bytes pc = .ok (.ldiv, 1)) (hq : pc + 1 = q) (hy : y ≠ 0) (K : oGo Z own nm bytes ml ret R n0 Q k n h q L (.long (x / y) :: S)) : oGo Z own nm bytes ml ret R n0 Q k n h pc L (.long y :: .long x :: S) := by
  subst hq; exact oGo.st (fun p e m below c T hx hby hA t k => XS.ldiv hA hx rfl (hb hby hd) rfl hy k) K
theorem oGo.irem {x y : Int32} (hd : decode bytes pc = .ok (.irem, 1)) (hq : pc + 1 = q) (hy : y ≠ 0) (K : oGo Z own nm bytes ml ret R n0 Q k n h q L (.int (x % y) :: S)) : oGo Z own nm bytes ml ret R n0 Q k n h pc L (.int y :: .int x :: S) := by
  subst hq; exact oGo.st (fun p e m below c T hx hby hA t k => XS.irem hA hx rfl (hb hby hd) rfl hy (by rw [irem_eq_mod]; exact k)) K
theorem oGo.lrem {x y : Int64} (hd : decode bytes pc = .ok (.lrem, 1)) (hq : pc + 1 = q) (hy : y ≠ 0) (K : oGo Z own nm bytes ml ret R n0 Q k n h q L (.long (x % y) :: S)) : oGo Z own nm bytes ml ret R n0 Q k n h pc L (.long y :: .long x :: S) := by
  subst hq; exact oGo.st (fun p e m below c T hx hby hA t k => XS.lrem hA hx rfl (hb hby hd) rfl hy (by rw [lrem_mod]; exact k)) K
theorem oGo.ineg {x : Int32} (hd : decode bytes pc = .ok (.ineg, 1)) (hq : pc + 1 = q) (K : oGo Z own nm bytes ml ret R n0 Q k n h q L (.int (-x) :: S)) : oGo Z own nm bytes ml ret R n0 Q k n h pc L (.int x :: S) := by
  subst hq; exact oGo.st (fun p e m below c T hx hby hA t k => XS.ineg hA hx rfl (hb hby hd) rfl k) K
theorem oGo.lneg {x : Int64} (hd : decode bytes pc = .ok (.lneg, 1)) (hq : pc + 1 = q) (K : oGo Z own nm bytes ml ret R n0 Q k n h q L (.long (-x) :: S)) : oGo Z own nm bytes ml ret R n0 Q k n h pc L (.long x :: S) := by
  subst hq; exact oGo.st (fun p e m below c T hx hby hA t k => XS.lneg hA hx rfl (hb hby hd) rfl k) K
theorem oGo.i2b {x : Int32} (hd : decode bytes pc = .ok (.i2b, 1)) (hq : pc + 1 = q) (K : oGo Z own nm bytes ml ret R n0 Q k n h q L (.int (x.toInt8.toInt32) :: S)) : oGo Z own nm bytes ml ret R n0 Q k n h pc L (.int x :: S) := by
  subst hq; exact oGo.st (fun p e m below c T hx hby hA t k => XS.i2b hA hx rfl (hb hby hd) rfl k) K
theorem oGo.i2c {x : Int32} (hd : decode bytes pc = .ok (.i2c, 1)) (hq : pc + 1 = q) (K : oGo Z own nm bytes ml ret R n0 Q k n h q L (.int (x.toUInt32.toUInt16.toUInt32.toInt32) :: S)) : oGo Z own nm bytes ml ret R n0 Q k n h pc L (.int x :: S) := by
  subst hq; exact oGo.st (fun p e m below c T hx hby hA t k => XS.i2c hA hx rfl (hb hby hd) rfl k) K
theorem oGo.i2s {x : Int32} (hd : decode bytes pc = .ok (.i2s, 1)) (hq : pc + 1 = q) (K : oGo Z own nm bytes ml ret R n0 Q k n h q L (.int (x.toInt16.toInt32) :: S)) : oGo Z own nm bytes ml ret R n0 Q k n h pc L (.int x :: S) := by
  subst hq; exact oGo.st (fun p e m below c T hx hby hA t k => XS.i2s hA hx rfl (hb hby hd) rfl k) K
theorem oGo.i2l {x : Int32} (hd : decode bytes pc = .ok (.i2l, 1)) (hq : pc + 1 = q) (K : oGo Z own nm bytes ml ret R n0 Q k n h q L (.long (x.toInt64) :: S)) : oGo Z own nm bytes ml ret R n0 Q k n h pc L (.int x :: S) := by
  subst hq; exact oGo.st (fun p e m below c T hx hby hA t k => XS.i2l hA hx rfl (hb hby hd) rfl k) K
theorem oGo.l2i {x : Int64} (hd : decode bytes pc = .ok (.l2i, 1)) (hq : pc + 1 = q) (K : oGo Z own nm bytes ml ret R n0 Q k n h q L (.int (x.toInt32) :: S)) : oGo Z own nm bytes ml ret R n0 Q k n h pc L (.long x :: S) := by
  subst hq; exact oGo.st (fun p e m below c T hx hby hA t k => XS.l2i hA hx rfl (hb hby hd) rfl k) K
theorem oGo.iconst {i : Int} {v : Int32} (hd : decode bytes pc = .ok (.iconst i, 1)) (hq : pc + 1 = q) (hv : Int32.ofInt i = v) (K : oGo Z own nm bytes ml ret R n0 Q k n h q L (.int v :: S)) : oGo Z own nm bytes ml ret R n0 Q k n h pc L S := by
  subst hq hv; exact oGo.st (fun p e m below c T hx hby hA t k => XS.iconst hA hx rfl (hb hby hd) k) K
theorem oGo.bipush {i : Int} {v : Int32} (hd : decode bytes pc = .ok (.bipush i, 2)) (hq : pc + 2 = q) (hv : (Int8.ofInt i).toInt32 = v) (K : oGo Z own nm bytes ml ret R n0 Q k n h q L (.int v :: S)) : oGo Z own nm bytes ml ret R n0 Q k n h pc L S := by
  subst hq hv; exact oGo.st (fun p e m below c T hx hby hA t k => XS.bipush hA hx rfl (hb hby hd) k) K
theorem oGo.sipush {i : Int} {v : Int32} (hd : decode bytes pc = .ok (.sipush i, 3)) (hq : pc + 3 = q) (hv : (Int16.ofInt i).toInt32 = v) (K : oGo Z own nm bytes ml ret R n0 Q k n h q L (.int v :: S)) : oGo Z own nm bytes ml ret R n0 Q k n h pc L S := by
  subst hq hv; exact oGo.st (fun p e m below c T hx hby hA t k => XS.sipush hA hx rfl (hb hby hd) k) K
theorem oGo.lconst {i : Fin 2} {v : Int64} (hd : decode bytes pc = .ok (.lconst i, 1)) (hq : pc + 1 = q) (hv : Int64.ofNat i = v) (K : oGo Z own nm bytes ml ret R n0 Q k n h q L (.long v :: S)) : oGo Z own nm bytes ml ret R n0 Q k n h pc L S := by
  subst hq hv; exact oGo.st (fun p e m below c T hx hby hA t k => XS.lconst hA hx rfl (hb hby hd) k) K
theorem oGo.aconstNull (hd : decode bytes pc = .ok (.aconst_null, 1)) (hq : pc + 1 = q) (K : oGo Z own nm bytes ml ret R n0 Q k n h q L (.null :: S)) : oGo Z own nm bytes ml ret R n0 Q k n h pc L (S) := by
  subst hq; exact oGo.st (fun p e m below c T hx hby hA t k => XS.aconstNull hA hx rfl (hb hby hd) k) K
theorem oGo.iload {i : Nat} {v : Int32} (hd : decode bytes pc = .ok (.iload i, 2)) (hq : pc + 2 = q) (hl : L[i]? = some (.val (.int v))) (K : oGo Z own nm bytes ml ret R n0 Q k n h q L (.int v :: S)) : oGo Z own nm bytes ml ret R n0 Q k n h pc L S := by
  subst hq; exact oGo.st (fun p e m below c T hx hby hA t k => XS.iload hA hx rfl (hb hby hd) hl k) K
theorem oGo.iloadN {i : Fin 4} {v : Int32} (hd : decode bytes pc = .ok (.iload_n i, 1)) (hq : pc + 1 = q) (hl : L[i.val]? = some (.val (.int v))) (K : oGo Z own nm bytes ml ret R n0 Q k n h q L (.int v :: S)) : oGo Z own nm bytes ml ret R n0 Q k n h pc L S := by
  subst hq; exact oGo.st (fun p e m below c T hx hby hA t k => XS.iloadN hA hx rfl (hb hby hd) hl k) K
theorem oGo.istore {i : Nat} {v : Int32} (hd : decode bytes pc = .ok (.istore i, 2)) (hq : pc + 2 = q) (hl : storeLocals L i (.int v) = some L') (K : oGo Z own nm bytes ml ret R n0 Q k n h q L' S) : oGo Z own nm bytes ml ret R n0 Q k n h pc L (.int v :: S) := by
  subst hq; exact oGo.st (fun p e m below c T hx hby hA t k => XS.istore hA hx rfl (hb hby hd) rfl hl k) K
theorem oGo.istoreN {i : Fin 4} {v : Int32} (hd : decode bytes pc = .ok (.istore_n i, 1)) (hq : pc + 1 = q) (hl : storeLocals L i.val (.int v) = some L') (K : oGo Z own nm bytes ml ret R n0 Q k n h q L' S) : oGo Z own nm bytes ml ret R n0 Q k n h pc L (.int v :: S) := by
  subst hq; exact oGo.st (fun p e m below c T hx hby hA t k => XS.istoreN hA hx rfl (hb hby hd) rfl hl k) K
theorem oGo.lload {i : Nat} {v : Int64} (hd : decode bytes pc = .ok (.lload i, 2)) (hq : pc + 2 = q) (hl : L[i]? = some (.val (.long v))) (K : oGo Z own nm bytes ml ret R n0 Q k n h q L (.long v :: S)) : oGo Z own nm bytes ml ret R n0 Q k n h pc L S := by
  subst hq; exact oGo.st (fun p e m below c T hx hby hA t k => XS.lload hA hx rfl (hb hby hd) hl k) K
theorem oGo.lloadN {i : Fin 4} {v : Int64} (hd : decode bytes pc = .ok (.lload_n i, 1)) (hq : pc + 1 = q) (hl : L[i.val]? = some (.val (.long v))) (K : oGo Z own nm bytes ml ret R n0 Q k n h q L (.long v :: S)) : oGo Z own nm bytes ml ret R n0 Q k n h pc L S := by
  subst hq; exact oGo.st (fun p e m below c T hx hby hA t k => XS.lloadN hA hx rfl (hb hby hd) hl k) K
theorem oGo.lstore {i : Nat} {v : Int64} (hd : decode bytes pc = .ok (.lstore i, 2)) (hq : pc + 2 = q) (hl : storeLocals L i (.long v) = some L') (K : oGo Z own nm bytes ml ret R n0 Q k n h q L' S) : oGo Z own nm bytes ml ret R n0 Q k n h pc L (.long v :: S) := by
  subst hq; exact oGo.st (fun p e m below c T hx hby hA t k => XS.lstore hA hx rfl (hb hby hd) rfl hl k) K
theorem oGo.lstoreN {i : Fin 4} {v : Int64} (hd : decode bytes pc = .ok (.lstore_n i, 1)) (hq : pc + 1 = q) (hl : storeLocals L i.val (.long v) = some L') (K : oGo Z own nm bytes ml ret R n0 Q k n h q L' S) : oGo Z own nm bytes ml ret R n0 Q k n h pc L (.long v :: S) := by
  subst hq; exact oGo.st (fun p e m below c T hx hby hA t k => XS.lstoreN hA hx rfl (hb hby hd) rfl hl k) K
theorem oGo.aload {i : Nat} {v : Value} (hd : decode bytes pc = .ok (.aload i, 2)) (hq : pc + 2 = q) (hl : L[i]? = some (.val v)) (hv : v.isRef = true) (K : oGo Z own nm bytes ml ret R n0 Q k n h q L (v :: S)) : oGo Z own nm bytes ml ret R n0 Q k n h pc L S := by
  subst hq; exact oGo.st (fun p e m below c T hx hby hA t k => XS.aload hA hx rfl (hb hby hd) hl hv k) K
theorem oGo.aloadN {i : Fin 4} {v : Value} (hd : decode bytes pc = .ok (.aload_n i, 1)) (hq : pc + 1 = q) (hl : L[i.val]? = some (.val v)) (hv : v.isRef = true) (K : oGo Z own nm bytes ml ret R n0 Q k n h q L (v :: S)) : oGo Z own nm bytes ml ret R n0 Q k n h pc L S := by
  subst hq; exact oGo.st (fun p e m below c T hx hby hA t k => XS.aloadN hA hx rfl (hb hby hd) hl hv k) K
theorem oGo.astore {i : Nat} {v : Value} (hd : decode bytes pc = .ok (.astore i, 2)) (hq : pc + 2 = q) (hv : v.isRef = true) (hl : storeLocals L i v = some L') (K : oGo Z own nm bytes ml ret R n0 Q k n h q L' S) : oGo Z own nm bytes ml ret R n0 Q k n h pc L (v :: S) := by
  subst hq; exact oGo.st (fun p e m below c T hx hby hA t k => XS.astore hA hx rfl (hb hby hd) rfl hv hl k) K
theorem oGo.astoreN {i : Fin 4} {v : Value} (hd : decode bytes pc = .ok (.astore_n i, 1)) (hq : pc + 1 = q) (hv : v.isRef = true) (hl : storeLocals L i.val v = some L') (K : oGo Z own nm bytes ml ret R n0 Q k n h q L' S) : oGo Z own nm bytes ml ret R n0 Q k n h pc L (v :: S) := by
  subst hq; exact oGo.st (fun p e m below c T hx hby hA t k => XS.astoreN hA hx rfl (hb hby hd) rfl hv hl k) K
theorem oGo.iinc {i : Nat} {cst : Int} {x v : Int32} (hd : decode bytes pc = .ok (.iinc i cst, 3)) (hq : pc + 3 = q) (hl : L[i]? = some (.val (.int x))) (hv : x + Int32.ofInt cst = v) (hs : storeLocals L i (.int v) = some L') (K : oGo Z own nm bytes ml ret R n0 Q k n h q L' S) : oGo Z own nm bytes ml ret R n0 Q k n h pc L S := by
  subst hq hv; exact oGo.st (fun p e m below c T hx hby hA t k => XS.iinc hA hx rfl (hb hby hd) hl hs k) K
theorem oGo.dup {v : Value} (hd : decode bytes pc = .ok (.dup, 1)) (hq : pc + 1 = q) (hc : v.category = 1) (K : oGo Z own nm bytes ml ret R n0 Q k n h q L (v :: v :: S)) : oGo Z own nm bytes ml ret R n0 Q k n h pc L (v :: S) := by
  subst hq; exact oGo.st (fun p e m below c T hx hby hA t k => XS.dup hA hx rfl (hb hby hd) rfl hc k) K
theorem oGo.dupX1 {v w : Value} (hd : decode bytes pc = .ok (.dup_x1, 1)) (hq : pc + 1 = q) (hc : v.category = 1) (hc' : w.category = 1) (K : oGo Z own nm bytes ml ret R n0 Q k n h q L (v :: w :: v :: S)) : oGo Z own nm bytes ml ret R n0 Q k n h pc L (v :: w :: S) := by
  subst hq; exact oGo.st (fun p e m below c T hx hby hA t k => XS.dupX1 hA hx rfl (hb hby hd) rfl hc hc' k) K
theorem oGo.dup2 {v w : Value} (hd : decode bytes pc = .ok (.dup2, 1)) (hq : pc + 1 = q) (hc : v.category = 1) (hc' : w.category = 1) (K : oGo Z own nm bytes ml ret R n0 Q k n h q L (v :: w :: v :: w :: S)) : oGo Z own nm bytes ml ret R n0 Q k n h pc L (v :: w :: S) := by
  subst hq; exact oGo.st (fun p e m below c T hx hby hA t k => XT.dup2 hA hx rfl (hb hby hd) rfl hc hc' k) K
theorem oGo.pop {v : Value} (hd : decode bytes pc = .ok (.pop, 1)) (hq : pc + 1 = q) (hc : v.category = 1) (K : oGo Z own nm bytes ml ret R n0 Q k n h q L S) : oGo Z own nm bytes ml ret R n0 Q k n h pc L (v :: S) := by
  subst hq; exact oGo.st (fun p e m below c T hx hby hA t k => XS.pop hA hx rfl (hb hby hd) rfl hc k) K
theorem oGo.goto {o : Int} (hd : decode bytes pc = .ok (.goto o, 3)) (hq : (pc : Int) + o = (q : Int)) (K : oGo Z own nm bytes ml ret R n0 Q k n h q L S) : oGo Z own nm bytes ml ret R n0 Q k n h pc L S :=
  oGo.st (fun p e m below c T hx hby hA t k => XS.goto hA hx rfl (pc0 := pc) (pc' := q) rfl (hb hby hd) (by omega) (by omega) k) K
theorem oGo.ifnonnullYes {o : Int} {b : Addr} (hd : decode bytes pc = .ok (.ifnonnull o, 3)) (hq : (pc : Int) + o = (q : Int)) (K : oGo Z own nm bytes ml ret R n0 Q k n h q L S) : oGo Z own nm bytes ml ret R n0 Q k n h pc L (.ref b :: S) :=
  oGo.st (fun p e m below c T hx hby hA t k => XS.ifnonnullYes hA hx rfl (pc0 := pc) (pc' := q) rfl (hb hby hd) rfl (by omega) (by omega) k) K
theorem oGo.lcmp {x y : Int64} (hd : decode bytes pc = .ok (.lcmp, 1)) (hq : pc + 1 = q) (K : oGo Z own nm bytes ml ret R n0 Q k n h q L (.int (lcmpW x y) :: S)) : oGo Z own nm bytes ml ret R n0 Q k n h pc L (.long y :: .long x :: S) := by
  subst hq; exact oGo.st (fun p e m below c T hx hby hA t k => XS.lcmp hA hx rfl (hb hby hd) rfl k) K
theorem own_hlt {x y : Int32} : (x.toInt < y.toInt → if_icmp.holds .lt x y = true) ∧ (y.toInt ≤ x.toInt → if_icmp.holds .lt x y = false) :=
  ⟨fun hc => (tlt (Int32.lt_iff_toInt_lt.mpr hc)).1, fun hc => (flt (fun z => by have := Int32.lt_iff_toInt_lt.mp z; omega)).1⟩
theorem own_dlt (x y : Int32) : (x.toInt < y.toInt) ∨ (y.toInt ≤ x.toInt) := by omega
theorem own_elt (x y : Int64) : (x.toInt < y.toInt) ∨ (y.toInt ≤ x.toInt) := by omega
theorem oGo.icmp_lt {o : Int} {x y : Int32} (hd : decode bytes pc = .ok (.if_icmp .lt o, 3)) (hq : (pc : Int) + o = (q : Int)) (hr : pc + 3 = r) (K1 : x.toInt < y.toInt → oGo Z own nm bytes ml ret R n0 Q k n h q L S) (K2 : y.toInt ≤ x.toInt → oGo Z own nm bytes ml ret R n0 Q k n h r L S) : oGo Z own nm bytes ml ret R n0 Q k n h pc L (.int y :: .int x :: S) := by
  rcases own_dlt x y with hc | hc
  · exact oGo.st (fun p e m below c T hx hby hA t k => XS.icmpYes hA hx rfl (pc0 := pc) (pc' := q) rfl (hb hby hd) rfl (own_hlt.1 hc) (by omega) (by omega) k) (K1 hc)
  · subst hr; exact oGo.st (fun p e m below c T hx hby hA t k => XS.icmpNo hA hx rfl (hb hby hd) rfl (own_hlt.2 hc) k) (K2 hc)
theorem oGo.if_lt {o : Int} {x : Int32} (hd : decode bytes pc = .ok (.ifCond .lt o, 3)) (hq : (pc : Int) + o = (q : Int)) (hr : pc + 3 = r) (K1 : x.toInt < 0 → oGo Z own nm bytes ml ret R n0 Q k n h q L S) (K2 : 0 ≤ x.toInt → oGo Z own nm bytes ml ret R n0 Q k n h r L S) : oGo Z own nm bytes ml ret R n0 Q k n h pc L (.int x :: S) := by
  rcases own_dlt x 0 with hc | hc
  · exact oGo.st (fun p e m below c T hx hby hA t k => XS.ifYes hA hx rfl (pc0 := pc) (pc' := q) rfl (hb hby hd) rfl ((if0 _ _).trans (own_hlt.1 hc)) (by omega) (by omega) k) (K1 hc)
  · subst hr; exact oGo.st (fun p e m below c T hx hby hA t k => XS.ifNo hA hx rfl (hb hby hd) rfl ((if0 _ _).trans (own_hlt.2 hc)) k) (K2 hc)
theorem own_llt {x y : Int64} : (x.toInt < y.toInt → (lcmpW x y).toInt < 0) ∧ (y.toInt ≤ x.toInt → 0 ≤ (lcmpW x y).toInt) := by
  obtain ⟨h1, h2, h3⟩ := c_lcmp x y
  refine ⟨fun hc => ?_, fun hc => ?_⟩ <;> (rcases Int.lt_trichotomy x.toInt y.toInt with u | u | u <;> simp_all <;> omega)
theorem oGo.lif_lt {o : Int} {x y : Int64} {pc2 : Nat} (hd : decode bytes pc = .ok (.lcmp, 1)) (h1 : pc + 1 = pc2) (hd2 : decode bytes pc2 = .ok (.ifCond .lt o, 3)) (hq : (pc2 : Int) + o = (q : Int)) (hr : pc2 + 3 = r) (K1 : x.toInt < y.toInt → oGo Z own nm bytes ml ret R n0 Q k n h q L S) (K2 : y.toInt ≤ x.toInt → oGo Z own nm bytes ml ret R n0 Q k n h r L S) : oGo Z own nm bytes ml ret R n0 Q k n h pc L (.long y :: .long x :: S) := by
  refine oGo.lcmp hd h1 (oGo.if_lt hd2 hq hr (fun hc => ?_) (fun hc => ?_))
  · rcases own_elt x y with u | u
    · exact K1 u
    · have := own_llt.2 u; first | exact absurd hc this | exact absurd this hc | omega
  · rcases own_elt x y with u | u
    · have := own_llt.1 u; first | exact absurd hc this | exact absurd this hc | omega
    · exact K2 u
theorem own_hge {x y : Int32} : (y.toInt ≤ x.toInt → if_icmp.holds .ge x y = true) ∧ (x.toInt < y.toInt → if_icmp.holds .ge x y = false) :=
  ⟨fun hc => (flt (fun z => by have := Int32.lt_iff_toInt_lt.mp z; omega)).2.1, fun hc => (tlt (Int32.lt_iff_toInt_lt.mpr hc)).2.1⟩
theorem own_dge (x y : Int32) : (y.toInt ≤ x.toInt) ∨ (x.toInt < y.toInt) := by omega
theorem own_ege (x y : Int64) : (y.toInt ≤ x.toInt) ∨ (x.toInt < y.toInt) := by omega
theorem oGo.icmp_ge {o : Int} {x y : Int32} (hd : decode bytes pc = .ok (.if_icmp .ge o, 3)) (hq : (pc : Int) + o = (q : Int)) (hr : pc + 3 = r) (K1 : y.toInt ≤ x.toInt → oGo Z own nm bytes ml ret R n0 Q k n h q L S) (K2 : x.toInt < y.toInt → oGo Z own nm bytes ml ret R n0 Q k n h r L S) : oGo Z own nm bytes ml ret R n0 Q k n h pc L (.int y :: .int x :: S) := by
  rcases own_dge x y with hc | hc
  · exact oGo.st (fun p e m below c T hx hby hA t k => XS.icmpYes hA hx rfl (pc0 := pc) (pc' := q) rfl (hb hby hd) rfl (own_hge.1 hc) (by omega) (by omega) k) (K1 hc)
  · subst hr; exact oGo.st (fun p e m below c T hx hby hA t k => XS.icmpNo hA hx rfl (hb hby hd) rfl (own_hge.2 hc) k) (K2 hc)
theorem oGo.if_ge {o : Int} {x : Int32} (hd : decode bytes pc = .ok (.ifCond .ge o, 3)) (hq : (pc : Int) + o = (q : Int)) (hr : pc + 3 = r) (K1 : 0 ≤ x.toInt → oGo Z own nm bytes ml ret R n0 Q k n h q L S) (K2 : x.toInt < 0 → oGo Z own nm bytes ml ret R n0 Q k n h r L S) : oGo Z own nm bytes ml ret R n0 Q k n h pc L (.int x :: S) := by
  rcases own_dge x 0 with hc | hc
  · exact oGo.st (fun p e m below c T hx hby hA t k => XS.ifYes hA hx rfl (pc0 := pc) (pc' := q) rfl (hb hby hd) rfl ((if0 _ _).trans (own_hge.1 hc)) (by omega) (by omega) k) (K1 hc)
  · subst hr; exact oGo.st (fun p e m below c T hx hby hA t k => XS.ifNo hA hx rfl (hb hby hd) rfl ((if0 _ _).trans (own_hge.2 hc)) k) (K2 hc)
theorem own_lge {x y : Int64} : (y.toInt ≤ x.toInt → 0 ≤ (lcmpW x y).toInt) ∧ (x.toInt < y.toInt → (lcmpW x y).toInt < 0) := by
  obtain ⟨h1, h2, h3⟩ := c_lcmp x y
  refine ⟨fun hc => ?_, fun hc => ?_⟩ <;> (rcases Int.lt_trichotomy x.toInt y.toInt with u | u | u <;> simp_all <;> omega)
theorem oGo.lif_ge {o : Int} {x y : Int64} {pc2 : Nat} (hd : decode bytes pc = .ok (.lcmp, 1)) (h1 : pc + 1 = pc2) (hd2 : decode bytes pc2 = .ok (.ifCond .ge o, 3)) (hq : (pc2 : Int) + o = (q : Int)) (hr : pc2 + 3 = r) (K1 : y.toInt ≤ x.toInt → oGo Z own nm bytes ml ret R n0 Q k n h q L S) (K2 : x.toInt < y.toInt → oGo Z own nm bytes ml ret R n0 Q k n h r L S) : oGo Z own nm bytes ml ret R n0 Q k n h pc L (.long y :: .long x :: S) := by
  refine oGo.lcmp hd h1 (oGo.if_ge hd2 hq hr (fun hc => ?_) (fun hc => ?_))
  · rcases own_ege x y with u | u
    · exact K1 u
    · have := own_lge.2 u; first | exact absurd hc this | exact absurd this hc | omega
  · rcases own_ege x y with u | u
    · have := own_lge.1 u; first | exact absurd hc this | exact absurd this hc | omega
    · exact K2 u
theorem own_hgt {x y : Int32} : (y.toInt < x.toInt → if_icmp.holds .gt x y = true) ∧ (x.toInt ≤ y.toInt → if_icmp.holds .gt x y = false) :=
  ⟨fun hc => (tlt (Int32.lt_iff_toInt_lt.mpr hc)).2.2.1, fun hc => (flt (fun z => by have := Int32.lt_iff_toInt_lt.mp z; omega)).2.2.1⟩
theorem own_dgt (x y : Int32) : (y.toInt < x.toInt) ∨ (x.toInt ≤ y.toInt) := by omega
theorem own_egt (x y : Int64) : (y.toInt < x.toInt) ∨ (x.toInt ≤ y.toInt) := by omega
theorem oGo.icmp_gt {o : Int} {x y : Int32} (hd : decode bytes pc = .ok (.if_icmp .gt o, 3)) (hq : (pc : Int) + o = (q : Int)) (hr : pc + 3 = r) (K1 : y.toInt < x.toInt → oGo Z own nm bytes ml ret R n0 Q k n h q L S) (K2 : x.toInt ≤ y.toInt → oGo Z own nm bytes ml ret R n0 Q k n h r L S) : oGo Z own nm bytes ml ret R n0 Q k n h pc L (.int y :: .int x :: S) := by
  rcases own_dgt x y with hc | hc
  · exact oGo.st (fun p e m below c T hx hby hA t k => XS.icmpYes hA hx rfl (pc0 := pc) (pc' := q) rfl (hb hby hd) rfl (own_hgt.1 hc) (by omega) (by omega) k) (K1 hc)
  · subst hr; exact oGo.st (fun p e m below c T hx hby hA t k => XS.icmpNo hA hx rfl (hb hby hd) rfl (own_hgt.2 hc) k) (K2 hc)
theorem oGo.if_gt {o : Int} {x : Int32} (hd : decode bytes pc = .ok (.ifCond .gt o, 3)) (hq : (pc : Int) + o = (q : Int)) (hr : pc + 3 = r) (K1 : 0 < x.toInt → oGo Z own nm bytes ml ret R n0 Q k n h q L S) (K2 : x.toInt ≤ 0 → oGo Z own nm bytes ml ret R n0 Q k n h r L S) : oGo Z own nm bytes ml ret R n0 Q k n h pc L (.int x :: S) := by
  rcases own_dgt x 0 with hc | hc
  · exact oGo.st (fun p e m below c T hx hby hA t k => XS.ifYes hA hx rfl (pc0 := pc) (pc' := q) rfl (hb hby hd) rfl ((if0 _ _).trans (own_hgt.1 hc)) (by omega) (by omega) k) (K1 hc)
  · subst hr; exact oGo.st (fun p e m below c T hx hby hA t k => XS.ifNo hA hx rfl (hb hby hd) rfl ((if0 _ _).trans (own_hgt.2 hc)) k) (K2 hc)
theorem own_lgt {x y : Int64} : (y.toInt < x.toInt → 0 < (lcmpW x y).toInt) ∧ (x.toInt ≤ y.toInt → (lcmpW x y).toInt ≤ 0) := by
  obtain ⟨h1, h2, h3⟩ := c_lcmp x y
  refine ⟨fun hc => ?_, fun hc => ?_⟩ <;> (rcases Int.lt_trichotomy x.toInt y.toInt with u | u | u <;> simp_all <;> omega)
theorem oGo.lif_gt {o : Int} {x y : Int64} {pc2 : Nat} (hd : decode bytes pc = .ok (.lcmp, 1)) (h1 : pc + 1 = pc2) (hd2 : decode bytes pc2 = .ok (.ifCond .gt o, 3)) (hq : (pc2 : Int) + o = (q : Int)) (hr : pc2 + 3 = r) (K1 : y.toInt < x.toInt → oGo Z own nm bytes ml ret R n0 Q k n h q L S) (K2 : x.toInt ≤ y.toInt → oGo Z own nm bytes ml ret R n0 Q k n h r L S) : oGo Z own nm bytes ml ret R n0 Q k n h pc L (.long y :: .long x :: S) := by
  refine oGo.lcmp hd h1 (oGo.if_gt hd2 hq hr (fun hc => ?_) (fun hc => ?_))
  · rcases own_egt x y with u | u
    · exact K1 u
    · have := own_lgt.2 u; first | exact absurd hc this | exact absurd this hc | omega
  · rcases own_egt x y with u | u
    · have := own_lgt.1 u; first | exact absurd hc this | exact absurd this hc | omega
    · exact K2 u
theorem own_hle {x y : Int32} : (x.toInt ≤ y.toInt → if_icmp.holds .le x y = true) ∧ (y.toInt < x.toInt → if_icmp.holds .le x y = false) :=
  ⟨fun hc => (flt (fun z => by have := Int32.lt_iff_toInt_lt.mp z; omega)).2.2.2, fun hc => (tlt (Int32.lt_iff_toInt_lt.mpr hc)).2.2.2⟩
theorem own_dle (x y : Int32) : (x.toInt ≤ y.toInt) ∨ (y.toInt < x.toInt) := by omega
theorem own_ele (x y : Int64) : (x.toInt ≤ y.toInt) ∨ (y.toInt < x.toInt) := by omega
theorem oGo.icmp_le {o : Int} {x y : Int32} (hd : decode bytes pc = .ok (.if_icmp .le o, 3)) (hq : (pc : Int) + o = (q : Int)) (hr : pc + 3 = r) (K1 : x.toInt ≤ y.toInt → oGo Z own nm bytes ml ret R n0 Q k n h q L S) (K2 : y.toInt < x.toInt → oGo Z own nm bytes ml ret R n0 Q k n h r L S) : oGo Z own nm bytes ml ret R n0 Q k n h pc L (.int y :: .int x :: S) := by
  rcases own_dle x y with hc | hc
  · exact oGo.st (fun p e m below c T hx hby hA t k => XS.icmpYes hA hx rfl (pc0 := pc) (pc' := q) rfl (hb hby hd) rfl (own_hle.1 hc) (by omega) (by omega) k) (K1 hc)
  · subst hr; exact oGo.st (fun p e m below c T hx hby hA t k => XS.icmpNo hA hx rfl (hb hby hd) rfl (own_hle.2 hc) k) (K2 hc)
theorem oGo.if_le {o : Int} {x : Int32} (hd : decode bytes pc = .ok (.ifCond .le o, 3)) (hq : (pc : Int) + o = (q : Int)) (hr : pc + 3 = r) (K1 : x.toInt ≤ 0 → oGo Z own nm bytes ml ret R n0 Q k n h q L S) (K2 : 0 < x.toInt → oGo Z own nm bytes ml ret R n0 Q k n h r L S) : oGo Z own nm bytes ml ret R n0 Q k n h pc L (.int x :: S) := by
  rcases own_dle x 0 with hc | hc
  · exact oGo.st (fun p e m below c T hx hby hA t k => XS.ifYes hA hx rfl (pc0 := pc) (pc' := q) rfl (hb hby hd) rfl ((if0 _ _).trans (own_hle.1 hc)) (by omega) (by omega) k) (K1 hc)
  · subst hr; exact oGo.st (fun p e m below c T hx hby hA t k => XS.ifNo hA hx rfl (hb hby hd) rfl ((if0 _ _).trans (own_hle.2 hc)) k) (K2 hc)
theorem own_lle {x y : Int64} : (x.toInt ≤ y.toInt → (lcmpW x y).toInt ≤ 0) ∧ (y.toInt < x.toInt → 0 < (lcmpW x y).toInt) := by
  obtain ⟨h1, h2, h3⟩ := c_lcmp x y
  refine ⟨fun hc => ?_, fun hc => ?_⟩ <;> (rcases Int.lt_trichotomy x.toInt y.toInt with u | u | u <;> simp_all <;> omega)
theorem oGo.lif_le {o : Int} {x y : Int64} {pc2 : Nat} (hd : decode bytes pc = .ok (.lcmp, 1)) (h1 : pc + 1 = pc2) (hd2 : decode bytes pc2 = .ok (.ifCond .le o, 3)) (hq : (pc2 : Int) + o = (q : Int)) (hr : pc2 + 3 = r) (K1 : x.toInt ≤ y.toInt → oGo Z own nm bytes ml ret R n0 Q k n h q L S) (K2 : y.toInt < x.toInt → oGo Z own nm bytes ml ret R n0 Q k n h r L S) : oGo Z own nm bytes ml ret R n0 Q k n h pc L (.long y :: .long x :: S) := by
  refine oGo.lcmp hd h1 (oGo.if_le hd2 hq hr (fun hc => ?_) (fun hc => ?_))
  · rcases own_ele x y with u | u
    · exact K1 u
    · have := own_lle.2 u; first | exact absurd hc this | exact absurd this hc | omega
  · rcases own_ele x y with u | u
    · have := own_lle.1 u; first | exact absurd hc this | exact absurd this hc | omega
    · exact K2 u
theorem own_heq {x y : Int32} : (x = y → if_icmp.holds .eq x y = true) ∧ (x ≠ y → if_icmp.holds .eq x y = false) :=
  ⟨fun hc => (teq hc).1, fun hc => (feq hc).1⟩
theorem own_deq (x y : Int32) : (x = y) ∨ (x ≠ y) := by exact Decidable.em _
theorem own_eeq (x y : Int64) : (x = y) ∨ (x ≠ y) := by exact Decidable.em _
theorem oGo.icmp_eq {o : Int} {x y : Int32} (hd : decode bytes pc = .ok (.if_icmp .eq o, 3)) (hq : (pc : Int) + o = (q : Int)) (hr : pc + 3 = r) (K1 : x = y → oGo Z own nm bytes ml ret R n0 Q k n h q L S) (K2 : x ≠ y → oGo Z own nm bytes ml ret R n0 Q k n h r L S) : oGo Z own nm bytes ml ret R n0 Q k n h pc L (.int y :: .int x :: S) := by
  rcases own_deq x y with hc | hc
  · exact oGo.st (fun p e m below c T hx hby hA t k => XS.icmpYes hA hx rfl (pc0 := pc) (pc' := q) rfl (hb hby hd) rfl (own_heq.1 hc) (by omega) (by omega) k) (K1 hc)
  · subst hr; exact oGo.st (fun p e m below c T hx hby hA t k => XS.icmpNo hA hx rfl (hb hby hd) rfl (own_heq.2 hc) k) (K2 hc)
theorem oGo.if_eq {o : Int} {x : Int32} (hd : decode bytes pc = .ok (.ifCond .eq o, 3)) (hq : (pc : Int) + o = (q : Int)) (hr : pc + 3 = r) (K1 : x = 0 → oGo Z own nm bytes ml ret R n0 Q k n h q L S) (K2 : x ≠ 0 → oGo Z own nm bytes ml ret R n0 Q k n h r L S) : oGo Z own nm bytes ml ret R n0 Q k n h pc L (.int x :: S) := by
  rcases own_deq x 0 with hc | hc
  · exact oGo.st (fun p e m below c T hx hby hA t k => XS.ifYes hA hx rfl (pc0 := pc) (pc' := q) rfl (hb hby hd) rfl ((if0 _ _).trans (own_heq.1 hc)) (by omega) (by omega) k) (K1 hc)
  · subst hr; exact oGo.st (fun p e m below c T hx hby hA t k => XS.ifNo hA hx rfl (hb hby hd) rfl ((if0 _ _).trans (own_heq.2 hc)) k) (K2 hc)
theorem own_leq {x y : Int64} : (x = y → lcmpW x y = 0) ∧ (x ≠ y → lcmpW x y ≠ 0) := by
  obtain ⟨h1, h2, h3⟩ := c_lcmp x y
  refine ⟨fun hc => ?_, fun hc => ?_⟩ <;> (first | exact (lw_eq x y).mpr hc | exact fun z => hc ((lw_eq x y).mp z))
theorem oGo.lif_eq {o : Int} {x y : Int64} {pc2 : Nat} (hd : decode bytes pc = .ok (.lcmp, 1)) (h1 : pc + 1 = pc2) (hd2 : decode bytes pc2 = .ok (.ifCond .eq o, 3)) (hq : (pc2 : Int) + o = (q : Int)) (hr : pc2 + 3 = r) (K1 : x = y → oGo Z own nm bytes ml ret R n0 Q k n h q L S) (K2 : x ≠ y → oGo Z own nm bytes ml ret R n0 Q k n h r L S) : oGo Z own nm bytes ml ret R n0 Q k n h pc L (.long y :: .long x :: S) := by
  refine oGo.lcmp hd h1 (oGo.if_eq hd2 hq hr (fun hc => ?_) (fun hc => ?_))
  · rcases own_eeq x y with u | u
    · exact K1 u
    · have := own_leq.2 u; first | exact absurd hc this | exact absurd this hc | omega
  · rcases own_eeq x y with u | u
    · have := own_leq.1 u; first | exact absurd hc this | exact absurd this hc | omega
    · exact K2 u
theorem own_hne {x y : Int32} : (x ≠ y → if_icmp.holds .ne x y = true) ∧ (x = y → if_icmp.holds .ne x y = false) :=
  ⟨fun hc => (feq hc).2, fun hc => (teq hc).2⟩
theorem own_dne (x y : Int32) : (x ≠ y) ∨ (x = y) := by exact (Decidable.em _).symm
theorem own_ene (x y : Int64) : (x ≠ y) ∨ (x = y) := by exact (Decidable.em _).symm
theorem oGo.icmp_ne {o : Int} {x y : Int32} (hd : decode bytes pc = .ok (.if_icmp .ne o, 3)) (hq : (pc : Int) + o = (q : Int)) (hr : pc + 3 = r) (K1 : x ≠ y → oGo Z own nm bytes ml ret R n0 Q k n h q L S) (K2 : x = y → oGo Z own nm bytes ml ret R n0 Q k n h r L S) : oGo Z own nm bytes ml ret R n0 Q k n h pc L (.int y :: .int x :: S) := by
  rcases own_dne x y with hc | hc
  · exact oGo.st (fun p e m below c T hx hby hA t k => XS.icmpYes hA hx rfl (pc0 := pc) (pc' := q) rfl (hb hby hd) rfl (own_hne.1 hc) (by omega) (by omega) k) (K1 hc)
  · subst hr; exact oGo.st (fun p e m below c T hx hby hA t k => XS.icmpNo hA hx rfl (hb hby hd) rfl (own_hne.2 hc) k) (K2 hc)
theorem oGo.if_ne {o : Int} {x : Int32} (hd : decode bytes pc = .ok (.ifCond .ne o, 3)) (hq : (pc : Int) + o = (q : Int)) (hr : pc + 3 = r) (K1 : x ≠ 0 → oGo Z own nm bytes ml ret R n0 Q k n h q L S) (K2 : x = 0 → oGo Z own nm bytes ml ret R n0 Q k n h r L S) : oGo Z own nm bytes ml ret R n0 Q k n h pc L (.int x :: S) := by
  rcases own_dne x 0 with hc | hc
  · exact oGo.st (fun p e m below c T hx hby hA t k => XS.ifYes hA hx rfl (pc0 := pc) (pc' := q) rfl (hb hby hd) rfl ((if0 _ _).trans (own_hne.1 hc)) (by omega) (by omega) k) (K1 hc)
  · subst hr; exact oGo.st (fun p e m below c T hx hby hA t k => XS.ifNo hA hx rfl (hb hby hd) rfl ((if0 _ _).trans (own_hne.2 hc)) k) (K2 hc)
theorem own_lne {x y : Int64} : (x ≠ y → lcmpW x y ≠ 0) ∧ (x = y → lcmpW x y = 0) := by
  obtain ⟨h1, h2, h3⟩ := c_lcmp x y
  refine ⟨fun hc => ?_, fun hc => ?_⟩ <;> (first | exact (lw_eq x y).mpr hc | exact fun z => hc ((lw_eq x y).mp z))
theorem oGo.lif_ne {o : Int} {x y : Int64} {pc2 : Nat} (hd : decode bytes pc = .ok (.lcmp, 1)) (h1 : pc + 1 = pc2) (hd2 : decode bytes pc2 = .ok (.ifCond .ne o, 3)) (hq : (pc2 : Int) + o = (q : Int)) (hr : pc2 + 3 = r) (K1 : x ≠ y → oGo Z own nm bytes ml ret R n0 Q k n h q L S) (K2 : x = y → oGo Z own nm bytes ml ret R n0 Q k n h r L S) : oGo Z own nm bytes ml ret R n0 Q k n h pc L (.long y :: .long x :: S) := by
  refine oGo.lcmp hd h1 (oGo.if_ne hd2 hq hr (fun hc => ?_) (fun hc => ?_))
  · rcases own_ene x y with u | u
    · exact K1 u
    · have := own_lne.2 u; first | exact absurd hc this | exact absurd this hc | omega
  · rcases own_ene x y with u | u
    · have := own_lne.1 u; first | exact absurd hc this | exact absurd this hc | omega
    · exact K2 u
theorem oGo.ldc2 {i : Nat} {v : Int64} (hd : decode bytes pc = .ok (.ldc2_w i, 3)) (hq : pc + 3 = q) (w : (Cond.constantLong own i v).before a0 Z = true) (K : oGo Z own nm bytes ml ret R n0 Q k n h q L (.long v :: S)) : oGo Z own nm bytes ml ret R n0 Q k n h pc L S :=
  fun p l e s m args below meth c T locs C X eT N => by
    obtain ⟨hx, hZ, hby, hml, hown, hret, hlk, hnm⟩ := C
    subst hq
    obtain ⟨s₂, o, h1, r⟩ := K p l e s m args below meth c T locs ⟨hx, hZ, hby, hml, hown, hret, hlk, hnm⟩ X eT N
    exact ⟨s₂, o, X.ldc2Long hx hown (mvT hZ w) (g := mkF m pc L S) rfl (hb hby hd) _ h1, r⟩
theorem oGo.ldcI {i : Nat} {v : Int32} (hd : decode bytes pc = .ok (.ldc i, 2)) (hq : pc + 2 = q) (w : (Cond.constant own i v).before a0 Z = true) (K : oGo Z own nm bytes ml ret R n0 Q k n h q L (.int v :: S)) : oGo Z own nm bytes ml ret R n0 Q k n h pc L S :=
  fun p l e s m args below meth c T locs C X eT N => by
    obtain ⟨hx, hZ, hby, hml, hown, hret, hlk, hnm⟩ := C
    subst hq
    obtain ⟨s₂, o, h1, r⟩ := K p l e s m args below meth c T locs ⟨hx, hZ, hby, hml, hown, hret, hlk, hnm⟩ X eT N
    exact ⟨s₂, o, X.ldcInt hx hown (mvT hZ w) (g := mkF m pc L S) rfl (hb hby hd) _ h1, r⟩
/-! the returns -/
theorem own_end {p : Program} {l : Launch} {e : Env} {s : State} {m : MethodId} {args : Array Value} {below : List Frame} {meth : Method} {c : Code} {T : State} {locs : List Loc} (X : Stand p l e R s m args below meth c T locs k n) (hlk : meth.locks = false) {v : Option Value} (hv : meth.sig.returnType = none → v = none) (hk : k ≤ R.cells) (hn : n ≤ R.slots) (N : Fr n0 locs) (hQ : Q v T.heap) {g : JFrame}
    (H : ∀ fs, (∀ (f : JFrame) (acts : List Action), f.method = m → f.locked = none → f.entered = [] → (doReturn e (T.setTop f) acts v).1 = T.setFrames fs) → Steps p.tables e below (T.setTop g) (T.setFrames fs)) :
    ∃ s₂ o, Steps p.tables e below (T.setTop g) s₂ ∧ s₂.status = .running ∧ Ended s₂ below o ∧ ∃ v L', o = .returned v ∧ (Q v s₂.heap ∧ Fr n0 L') ∧ FrameEnd s o s₂ L' R.cells R.slots := by
  obtain ⟨fs, hr, hrun, hended, hW, hsame⟩ := X.leave hv hlk
  exact ⟨_, _, H fs hr, hrun, hended, _, _, rfl, ⟨hQ, N⟩, ⟨_, rfl⟩, hW, hsame.mono hk hn⟩
theorem oGo.retI {z : Int32} (hd : decode bytes pc = .ok (.ireturn, 1)) (hret : ret = some .int) (hk : k ≤ R.cells) (hn : n ≤ R.slots) (hQ : Q (some (.int z)) h) : oGo Z own nm bytes ml ret R n0 Q k n h pc L (.int z :: S) :=
  fun p l e s m args below meth c T locs C X eT N => by
    obtain ⟨hx, hZ, hby, hml, hown, hrt, hlk, hnm⟩ := C
    subst eT
    exact own_end X hlk (fun u => by rw [hrt, hret] at u; cases u) hk hn N hQ fun fs hr => retOut X hx (hrt.trans hret) rfl (Or.inl ⟨rfl, Or.inl rfl, z, rfl⟩) (hb hby hd) hr
theorem oGo.retN {z : Int32} {t : FieldType} (hd : decode bytes pc = .ok (.ireturn, 1)) (hret : ret = some t) (ht : t = .boolean ∨ t = .byte ∨ t = .char ∨ t = .short) (hk : k ≤ R.cells) (hn : n ≤ R.slots) (hQ : Q (some (.int (nar t z))) h) : oGo Z own nm bytes ml ret R n0 Q k n h pc L (.int z :: S) :=
  fun p l e s m args below meth c T locs C X eT N => by
    obtain ⟨hx, hZ, hby, hml, hown, hrt, hlk, hnm⟩ := C
    subst eT
    exact own_end X hlk (fun u => by rw [hrt, hret] at u; cases u) hk hn N hQ fun fs hr => Jvm.RoadKit.retN X hx (hrt.trans hret) ht (hb hby hd) hr
theorem oGo.retJ {z : Int64} (hd : decode bytes pc = .ok (.lreturn, 1)) (hret : ret = some .long) (hk : k ≤ R.cells) (hn : n ≤ R.slots) (hQ : Q (some (.long z)) h) : oGo Z own nm bytes ml ret R n0 Q k n h pc L (.long z :: S) :=
  fun p l e s m args below meth c T locs C X eT N => by
    obtain ⟨hx, hZ, hby, hml, hown, hrt, hlk, hnm⟩ := C
    subst eT
    exact own_end X hlk (fun u => by rw [hrt, hret] at u; cases u) hk hn N hQ fun fs hr => retOut X hx (hrt.trans hret) rfl (Or.inr (Or.inl ⟨rfl, rfl, z, rfl⟩)) (hb hby hd) hr
theorem oGo.retA {v : Value} {t : FieldType} (hd : decode bytes pc = .ok (.areturn, 1)) (hret : ret = some t) (ht : t.isReference = true) (hv : v.isRef = true) (hk : k ≤ R.cells) (hn : n ≤ R.slots) (hQ : Q (some v) h) : oGo Z own nm bytes ml ret R n0 Q k n h pc L (v :: S) :=
  fun p l e s m args below meth c T locs C X eT N => by
    obtain ⟨hx, hZ, hby, hml, hown, hrt, hlk, hnm⟩ := C
    subst eT
    exact own_end X hlk (fun u => by rw [hrt, hret] at u; cases u) hk hn N hQ fun fs hr => retOut X hx (hrt.trans hret) (by cases t <;> first | (cases ht; done) | rfl) (Or.inr (Or.inr (Or.inr (Or.inr ⟨rfl, ht, hv⟩)))) (hb hby hd) hr
theorem oGo.retV (hd : decode bytes pc = .ok (.return_, 1)) (hret : ret = none) (hk : k ≤ R.cells) (hn : n ≤ R.slots) (hQ : Q none h) : oGo Z own nm bytes ml ret R n0 Q k n h pc L [] :=
  fun p l e s m args below meth c T locs C X eT N => by
    obtain ⟨hx, hZ, hby, hml, hown, hrt, hlk, hnm⟩ := C
    subst eT
    exact own_end X hlk (fun _ => rfl) hk hn N hQ fun fs hr => X.returnOut hx (hrt.trans hret) (hb hby hd) hr
/-! calls by contract -/
theorem oGo.callS {y : MethodName} {i W : Nat} {bytes' : ByteArray} {ml' : Nat} {ret' : Option FieldType} {rm : Room} {as : Array Value} {Q' : Option Value → Heap → Prop} {ps : List FieldType} {rt : Option FieldType} (argsL rest : List Value) (hd : decode bytes pc = .ok (.invokestatic i, 3)) (hq : pc + 3 = q)
    (w1 : (Cond.methodLink own i y).before a0 Z = true) (w2 : (Cond.static y).before a0 Z = true) (w3 : (Cond.initialized y.cls).before a0 Z = true) (w4 : (Cond.code y bytes' ml' ret').before a0 Z = true) (hy : y.cls ≠ "java/lang/invoke/MethodHandle" ∧ y.cls ≠ "java/lang/invoke/VarHandle")
    (hC : oCon Z y bytes' ml' ret' rm as h n0 Q') (hS : S = argsL.reverse ++ rest) (has : argsL.toArray = as) (hpd : parseMethodDescriptor y.desc = some ⟨ps, rt⟩) (hlen : argsL.length = ps.length) (hL : L.size = ml) (hW : 2 * 0 + (rest.map fun v => v.category).sum ≤ W) (hf : rm.frames + 1 ≤ R.frames) (hl : W + (ml' + 11) + rm.locals ≤ R.locals) (hc : k + rm.cells ≤ R.cells) (hs : n + rm.slots ≤ R.slots)
    (K : ∀ v h', Q' v h' → oGo Z own nm bytes ml ret R n0 Q (k + rm.cells) (n + rm.slots) h' q L (v.toList ++ rest)) : oGo Z own nm bytes ml ret R n0 Q k n h pc L S :=
  fun p l e s m args below meth c T locs C X eT N => by
    obtain ⟨hx, hZ, hby, hml, hown, hrt, hlk, hnm⟩ := C
    subst hq
    obtain ⟨v, _, ⟨T', L2, k2, n2⟩, -, X', ⟨Lc, hQ', l', y', z'⟩, st⟩ := Jvm.LawKit.callS X hx (y := y) hown (mvT hZ w1) (mvT hZ w2) (mvT hZ w3) (mvT hZ w4) hy (backOf (W := W) (Q := fun v h' L => Q' v h' ∧ Fr n0 L) (hC l []) hZ w4 w3 hf hl) (g := mkF m pc L S) rfl (by rw [hml]; exact hL) (argsL := argsL) (rest := rest) (lenOf hpd hlen) hS hW (hb hby hd) (fun _ _ => ⟨has, eT, hc, hs⟩)
    dsimp only [Pt.U, Pt.locs, Pt.cells, Pt.slots] at X' l' y' z' st hQ'
    subst l' y' z'
    obtain ⟨s₂, o, h1, r⟩ := K v T'.heap hQ'.1 p l e s m args below meth c T' _ ⟨hx, hZ, hby, hml, hown, hrt, hlk, hnm⟩ X' rfl (Fr.app N hQ'.2)
    exact ⟨s₂, o, st _ h1, r⟩
theorem oGo.callI {y : MethodName} {i W : Nat} {bytes' : ByteArray} {ml' : Nat} {rm : Room} {as : Array Value} {Q' : Option Value → Heap → Prop} {ps : List FieldType} {rt : Option FieldType} {a : Addr} (argsL rest : List Value) (hd : decode bytes pc = .ok (.invokespecial i, 3)) (hq : pc + 3 = q) (hy1 : y.name = "<init>")
    (w1 : (Cond.methodLink own i y).before a0 Z = true) (w2 : (Cond.instanceMethod y).before a0 Z = true) (w3 : (Cond.initialized y.cls).before a0 Z = true) (w4 : (Cond.code y bytes' ml' none).before a0 Z = true) (hy : y.cls ≠ "java/lang/invoke/MethodHandle" ∧ y.cls ≠ "java/lang/invoke/VarHandle")
    (hC : oCon Z y bytes' ml' none rm as h n0 Q') (hS : S = argsL.reverse ++ .ref a :: rest) (has : (.ref a :: argsL).toArray = as) (hpd : parseMethodDescriptor y.desc = some ⟨ps, rt⟩) (hlen : argsL.length = ps.length) (hL : L.size = ml) (hW : 2 * 0 + (rest.map fun v => v.category).sum ≤ W) (hf : rm.frames + 1 ≤ R.frames) (hl : W + (ml' + 11) + rm.locals ≤ R.locals) (hc : k + rm.cells ≤ R.cells) (hs : n + rm.slots ≤ R.slots)
    (K : ∀ v h', Q' v h' → oGo Z own nm bytes ml ret R n0 Q (k + rm.cells) (n + rm.slots) h' q L (v.toList ++ rest)) : oGo Z own nm bytes ml ret R n0 Q k n h pc L S :=
  fun p l e s m args below meth c T locs C X eT N => by
    obtain ⟨hx, hZ, hby, hml, hown, hrt, hlk, hnm⟩ := C
    subst hq
    obtain ⟨v, _, ⟨T', L2, k2, n2⟩, -, X', ⟨Lc, hQ', l', y', z'⟩, st⟩ := X.specialBack hx (y := y) hy1 hown (mvT hZ w1) (mvT hZ w2) (mvT hZ w4) hy (backOf (W := W) (Q := fun v h' L => Q' v h' ∧ Fr n0 L) (hC l []) hZ w4 w3 hf hl) (g := mkF m pc L S) rfl (by rw [hml]; exact hL) (Steps.refl _) (a := a) (argsL := argsL) (rest := rest) (lenOf hpd hlen) hS hW (hb hby hd) (fun _ _ => ⟨has, eT, hc, hs⟩)
    dsimp only [Pt.U, Pt.locs, Pt.cells, Pt.slots] at X' l' y' z' st hQ'
    subst l' y' z'
    obtain ⟨s₂, o, h1, r⟩ := K v T'.heap hQ'.1 p l e s m args below meth c T' _ ⟨hx, hZ, hby, hml, hown, hrt, hlk, hnm⟩ X' rfl (Fr.app N hQ'.2)
    exact ⟨s₂, o, st.trans h1, r⟩
theorem oGo.callV {y z : MethodName} {C : String} {i W : Nat} {bytes' : ByteArray} {ml' : Nat} {ret' : Option FieldType} {rm : Room} {as : Array Value} {Q' : Option Value → Heap → Prop} {ps : List FieldType} {rt : Option FieldType} {a : Addr} (argsL rest : List Value) (hd : decode bytes pc = .ok (.invokevirtual i, 3)) (hq : pc + 3 = q)
    (w1 : (Cond.methodLink own i y).before a0 Z = true) (w2 : (Cond.declares y).before a0 Z = true) (w5 : (Cond.selects C y z).before a0 Z = true) (w6 : (Cond.instanceMethod z).before a0 Z = true) (w3 : (Cond.initialized z.cls).before a0 Z = true) (w4 : (Cond.code z bytes' ml' ret').before a0 Z = true) (hyz : y = z) (hy : y.cls ≠ "java/lang/invoke/MethodHandle" ∧ y.cls ≠ "java/lang/invoke/VarHandle") (E : Exa Z h a C)
    (hC : oCon Z z bytes' ml' ret' rm as h n0 Q') (hS : S = argsL.reverse ++ .ref a :: rest) (has : (.ref a :: argsL).toArray = as) (hpd : parseMethodDescriptor y.desc = some ⟨ps, rt⟩) (hlen : argsL.length = ps.length) (hL : L.size = ml) (hW : 2 * 0 + (rest.map fun v => v.category).sum ≤ W) (hf : rm.frames + 1 ≤ R.frames) (hl : W + (ml' + 11) + rm.locals ≤ R.locals) (hc : k + rm.cells ≤ R.cells) (hs : n + rm.slots ≤ R.slots)
    (K : ∀ v h', Q' v h' → oGo Z own nm bytes ml ret R n0 Q (k + rm.cells) (n + rm.slots) h' q L (v.toList ++ rest)) : oGo Z own nm bytes ml ret R n0 Q k n h pc L S :=
  fun p l e s m args below meth c T locs Cx X eT N => by
    obtain ⟨hx, hZ, hby, hml, hown, hrt, hlk, hnm⟩ := Cx
    subst hq hyz
    obtain ⟨cq, kq, qa, qb, qc⟩ := isOf (T := T) hZ eT E
    obtain ⟨v, _, ⟨T', L2, k2, n2⟩, -, X', ⟨Lc, hQ', l', y', z'⟩, st⟩ := X.virtualBack hx (y := y) (z := y) hown (mvT hZ w1) (mvT hZ w2) (notFace_of_selects (args := #[]) (mvT hZ w5)) (mvT hZ w5) (mvT hZ w6) hy (backOf (W := W) (Q := fun v h' L => Q' v h' ∧ Fr n0 L) (hC l []) hZ w4 w3 hf hl) qa qc (g := mkF m pc L S) rfl (by rw [hml]; exact hL) (Steps.refl _) (argsL := argsL) (rest := rest) (lenOf hpd hlen) hS hW (hb hby hd) (fun _ _ => ⟨has, eT, hc, hs⟩)
    dsimp only [Pt.U, Pt.locs, Pt.cells, Pt.slots] at X' l' y' z' st hQ'
    subst l' y' z'
    obtain ⟨s₂, o, h1, r⟩ := K v T'.heap hQ'.1 p l e s m args below meth c T' _ ⟨hx, hZ, hby, hml, hown, hrt, hlk, hnm⟩ X' rfl (Fr.app N hQ'.2)
    exact ⟨s₂, o, st.trans h1, r⟩
theorem oGo.initO {i W : Nat} {a : Addr} (hd : decode bytes pc = .ok (.invokespecial i, 3)) (hq : pc + 3 = q) (w1 : (Cond.methodLink own i Lib.objectInit).before a0 Z = true) (w2 : (Cond.instanceMethod Lib.objectInit).before a0 Z = true) (w3 : (Cond.code Lib.objectInit ⟨#[0xb1]⟩ 1 none).before a0 Z = true) (hL : L.size = ml) (hf : 1 ≤ R.frames) (hW : 2 * 0 + (S.map fun v => v.category).sum ≤ W) (hl : W + 12 ≤ R.locals) (K : oGo Z own nm bytes ml ret R n0 Q k n h q L S) : oGo Z own nm bytes ml ret R n0 Q k n h pc L (.ref a :: S) :=
  fun p l e s m args below meth c T locs C X eT N => by
    obtain ⟨hx, hZ, hby, hml, hown, hrt, hlk, hnm⟩ := C
    subst hq
    obtain ⟨T', X', e', st⟩ := Jvm.RoadKit.initO X hx hZ hown w1 w2 w3 eT (g := mkF m pc L (.ref a :: S)) rfl (by rw [hml]; exact hL) rfl (hb hby hd) hf hW hl
    obtain ⟨s₂, o, h1, r⟩ := K p l e s m args below meth c T' locs ⟨hx, hZ, hby, hml, hown, hrt, hlk, hnm⟩ X' e' N
    exact ⟨s₂, o, st _ h1, r⟩
/-! objects -/
theorem own_keep {h h' : Heap} (E : Ext h h') : Keep h h' [] := (Keep.refl h []).ext E
theorem oGo.newO {C : String} {i nn : Nat} (hd : decode bytes pc = .ok (.new i, 3)) (hq : pc + 3 = q) (w : (Cond.classLink own i C).before a0 Z = true) (wi : (Cond.instantiable C nn).before a0 Z = true) (wz : (Cond.initialized C).before a0 Z = true) (hc : k + 1 ≤ R.cells) (hs : n + nn ≤ R.slots)
    (K : ∀ h' a, a = h.size → Keep h h' [] → Exa Z h' a C → (∀ {O f d : String} {ty : FieldType}, Laid Z a0 C O f d → parseFieldDescriptor d = some ty → Fld Z h' a O f d (defaultValue ty)) → oGo Z own nm bytes ml ret R n0 Q (k + 1) (n + nn) h' q L (.ref a :: S)) : oGo Z own nm bytes ml ret R n0 Q k n h pc L S :=
  fun p l e s m args below meth c T locs Cx X eT N => by
    obtain ⟨hx, hZ, hby, hml, hown, hrt, hlk, hnm⟩ := Cx
    subst hq
    obtain ⟨T', h', X', e', E, A, D, -, st⟩ := Jvm.RoadKit.newO X hx hZ hown w wi wz eT (g := mkF m pc L S) rfl (hb hby hd) hc hs
    obtain ⟨s₂, o, h1, r⟩ := K h' h.size rfl (own_keep E) A D p l e s m args below meth c T' locs ⟨hx, hZ, hby, hml, hown, hrt, hlk, hnm⟩ X' e' N
    exact ⟨s₂, o, st _ h1, r⟩
theorem oGo.getF {R0 O f d host : String} {i : Nat} {a : Addr} {v : Value} (hd : decode bytes pc = .ok (.getfield i, 3)) (hq : pc + 3 = q) (w : (Cond.fieldLink own i R0 f d).before a0 Z = true ∨ (Cond.fieldLinkNest own i R0 f d host).before a0 Z = true) (via : Via Z R0 O f d) (F : Fld Z h a O f d v) (K : oGo Z own nm bytes ml ret R n0 Q k n h q L (v :: S)) : oGo Z own nm bytes ml ret R n0 Q k n h pc L (.ref a :: S) :=
  fun p l e s m args below meth c T locs C X eT N => by
    obtain ⟨hx, hZ, hby, hml, hown, hrt, hlk, hnm⟩ := C
    subst hq
    obtain ⟨T', X', e', st⟩ := Jvm.RoadKit.getF X hx hZ hown w via eT F (g := mkF m pc L (.ref a :: S)) rfl rfl (hb hby hd)
    obtain ⟨s₂, o, h1, r⟩ := K p l e s m args below meth c T' locs ⟨hx, hZ, hby, hml, hown, hrt, hlk, hnm⟩ X' e' N
    exact ⟨s₂, o, st _ h1, r⟩
theorem oGo.getS {R0 O f d : String} {i : Nat} {v : Value} (hd : decode bytes pc = .ok (.getstatic i, 3)) (hq : pc + 3 = q) (w : (Cond.fieldLink own i R0 f d).before a0 Z = true) (via : Via Z R0 O f d) (F : Sta Z h O f d v) (K : oGo Z own nm bytes ml ret R n0 Q k n h q L (v :: S)) : oGo Z own nm bytes ml ret R n0 Q k n h pc L S :=
  fun p l e s m args below meth c T locs C X eT N => by
    obtain ⟨hx, hZ, hby, hml, hown, hrt, hlk, hnm⟩ := C
    subst hq
    obtain ⟨T', X', e', st⟩ := Jvm.RoadKit.getS (host := "") X hx hZ hown w via eT F (g := mkF m pc L S) rfl (hb hby hd)
    obtain ⟨s₂, o, h1, r⟩ := K p l e s m args below meth c T' locs ⟨hx, hZ, hby, hml, hown, hrt, hlk, hnm⟩ X' e' N
    exact ⟨s₂, o, st _ h1, r⟩
theorem oGo.putF {R0 O f d host C : String} {i kk : Nat} {ty : FieldType} {a : Addr} {v w0 : Value} (hd : decode bytes pc = .ok (.putfield i, 3)) (hq : pc + 3 = q) (w : (Cond.fieldLink own i R0 f d).before a0 Z = true ∨ (Cond.fieldLinkNest own i R0 f d host).before a0 Z = true) (via : Via Z R0 O f d) (F : Fld Z h a O f d w0) (E : Exa Z h a C)
    (Lw : (Cond.lays C O f d).before a0 Z = true ∨ ((Cond.laysFinal C O f d).before a0 Z = true ∧ own = O ∧ nm = "<init>")) (wi : (Cond.instantiable C kk).before a0 Z = true) (hty : parseFieldDescriptor d = some ty) (hn : narrow ty v = v) (hf : fits ty v = true) (ha : n0 ≤ a)
    (K : ∀ h', Keep h h' [a] → Exa Z h' a C → Fld Z h' a O f d v → (∀ {O' f' d' : String} {u : Value}, Jvm.RoadKit.slotOf Z O' f' d' ≠ Jvm.RoadKit.slotOf Z O f d → Fld Z h a O' f' d' u → Fld Z h' a O' f' d' u) → oGo Z own nm bytes ml ret R n0 Q k n h' q L S) : oGo Z own nm bytes ml ret R n0 Q k n h pc L (v :: .ref a :: S) :=
  fun p l e s m args below meth c T locs Cx X eT N => by
    obtain ⟨hx, hZ, hby, hml, hown, hrt, hlk, hnm⟩ := Cx
    subst hq
    obtain ⟨T', h', X', e', W, st⟩ := Jvm.RoadKit.putF X hx hZ hown w via eT F E (Lw.imp id fun u => ⟨u.1, u.2.1, hnm.trans u.2.2⟩) wi hty hn hf (g := mkF m pc L (v :: .ref a :: S)) rfl rfl (hb hby hd)
    obtain ⟨s₂, o, h1, r⟩ := K h' (Keep.of_wr W) (E.wr W) (F.same W) (fun hne G => G.other W (Or.inr hne)) p l e s m args below meth c T' _ ⟨hx, hZ, hby, hml, hown, hrt, hlk, hnm⟩ X' e' (Fr.snoc X' N ha)
    exact ⟨s₂, o, st _ h1, r⟩
/-! arrays -/
def Ars (Z : State) (h : Heap) (a : Addr) (ty : FieldType) (vs : List Value) : Prop := ∃ c : Cell, Arr Z h a c ty ∧ c.slots.toList = vs ∧ ∀ v ∈ vs, fits ty v = true
theorem Ars.lt {a : Addr} {ty : FieldType} {vs : List Value} (A : Ars Z h a ty vs) : a < h.size := by obtain ⟨c, A, -⟩ := A; exact A.lt
theorem Ars.keep {h' : Heap} {ws : List Addr} {a : Addr} {ty : FieldType} {vs : List Value} (A : Ars Z h a ty vs) (K : Keep h h' ws) (q : a ∉ ws) : Ars Z h' a ty vs := by obtain ⟨c, A, r⟩ := A; exact ⟨c, ⟨K.2.1 a c A.1 q, A.2⟩, r⟩
theorem own_cn {j : Int32} {i : Nat} (hi : j.toInt = (i : Int)) : j.toNatClampNeg = i := by simp [Int32.toNatClampNeg, hi]
theorem own_in {j : Int32} {i : Nat} {c : Cell} {vs : List Value} (hi : j.toInt = (i : Int)) (hc : c.slots.toList = vs) (hl : i < vs.length) : ¬ (j < 0 ∨ c.slots.size ≤ j.toNatClampNeg) := by
  have e1 : c.slots.size = vs.length := by rw [← hc]; simp
  rw [own_cn hi, e1]
  rintro (u | u)
  · have := Int32.lt_iff_toInt_lt.mp u; have e0 : (0 : Int32).toInt = 0 := rfl; omega
  · omega
theorem own_at {j : Int32} {i : Nat} {c : Cell} {vs : List Value} {v : Value} (hi : j.toInt = (i : Int)) (hc : c.slots.toList = vs) (hv : vs[i]? = some v) : c.slots[j.toNatClampNeg]? = some v := by
  rw [own_cn hi, ← hv, ← hc]; simp
theorem Ars.wr {h' : Heap} {a : Addr} {ty : FieldType} {vs : List Value} {c : Cell} {i : Nat} {v : Value} {j : Int32} (hi : j.toInt = (i : Int)) (A : Arr Z h a c ty) (hc : c.slots.toList = vs) (hf : ∀ v ∈ vs, fits ty v = true) (hv : fits ty v = true) (W : Wr h h' a j.toNatClampNeg v) : Ars Z h' a ty (vs.set i v) := by
  refine ⟨_, A.same W, ?_, fun u hu => ?_⟩
  · rw [← hc, own_cn hi]; simp [Cell.setSlot]
  · rcases List.mem_or_eq_of_mem_set hu with u1 | u1
    · exact hf u u1
    · exact u1 ▸ hv
theorem oGo.newP {aty : ArrayType} {nn : Int32} {len : Nat} {ad : String} (cap : Nat) (hd : decode bytes pc = .ok (.newarray aty, 2)) (hq : pc + 2 = q) (w : (Cond.arrayClass (newarray.typeOf aty)).before a0 Z = true) (hn : nn.toInt = (len : Int)) (hcap : len ≤ cap) (hb8 : cap * 8 ≤ 536870912) (hc : k + 1 ≤ R.cells) (hs : n + cap ≤ R.slots) (had : "[" ++ (newarray.typeOf aty).toString = ad)
    (K : ∀ h' a, a = h.size → Keep h h' [] → Ars Z h' a (newarray.typeOf aty) (List.replicate len (defaultValue (newarray.typeOf aty))) → Exa Z h' a ad → oGo Z own nm bytes ml ret R n0 Q (k + 1) (n + cap) h' q L (.ref a :: S)) : oGo Z own nm bytes ml ret R n0 Q k n h pc L (.int nn :: S) :=
  fun p l e s m args below meth c T locs Cx X eT N => by
    obtain ⟨hx, hZ, hby, hml, hown, hrt, hlk, hnm⟩ := Cx
    subst hq
    have h0 : ¬ nn < 0 := fun u => by have := Int32.lt_iff_toInt_lt.mp u; have e0 : (0 : Int32).toInt = 0 := rfl; omega
    obtain ⟨T', h', cA, X', e', E, A, EA, st⟩ := Jvm.RoadKit.newPE X hx hZ w eT (g := mkF m pc L (.int nn :: S)) rfl (hb hby hd) rfl h0 (cap := cap) (by rw [own_cn hn]; exact hcap) hb8 hc hs had
    obtain ⟨s₂, o, h1, r⟩ := K h' h.size rfl (own_keep E) ⟨_, A, by simp [newA, own_cn hn], fun v hv => by rw [(List.mem_replicate.mp hv).2]; cases aty <;> rfl⟩ EA p l e s m args below meth c T' locs ⟨hx, hZ, hby, hml, hown, hrt, hlk, hnm⟩ X' e' N
    exact ⟨s₂, o, st _ h1, r⟩
theorem oGo.cast {i : Nat} {C : String} {a : Addr} (hd : decode bytes pc = .ok (.checkcast i, 3)) (hq : pc + 3 = q) (w : (Cond.classLink own i C).before a0 Z = true) (F : Ins Z h a C true) (K : oGo Z own nm bytes ml ret R n0 Q k n h q L (.ref a :: S)) : oGo Z own nm bytes ml ret R n0 Q k n h pc L (.ref a :: S) :=
  fun p l e s m args below meth c T locs Cx X eT N => by
    obtain ⟨hx, hZ, hby, hml, hown, hrt, hlk, hnm⟩ := Cx
    subst hq
    obtain ⟨T', X', e', st⟩ := Jvm.RoadKit.castY X hx hZ hown w eT F (g := mkF m pc L (.ref a :: S)) rfl rfl (hb hby hd)
    obtain ⟨s₂, o, h1, r⟩ := K p l e s m args below meth c T' locs ⟨hx, hZ, hby, hml, hown, hrt, hlk, hnm⟩ X' e' N
    exact ⟨s₂, o, st _ h1, r⟩
theorem oGo.arraylength {a : Addr} {ty : FieldType} {vs : List Value} {v : Int32} (hd : decode bytes pc = .ok (.arraylength, 1)) (hq : pc + 1 = q) (A : Ars Z h a ty vs) (hv : Int32.ofNat vs.length = v) (K : oGo Z own nm bytes ml ret R n0 Q k n h q L (.int v :: S)) : oGo Z own nm bytes ml ret R n0 Q k n h pc L (.ref a :: S) :=
  fun p l e s m args below meth c T locs Cx X eT N => by
    obtain ⟨hx, hZ, hby, hml, hown, hrt, hlk, hnm⟩ := Cx
    subst hq
    obtain ⟨cl, A, hc, -⟩ := A
    have e1 : cl.slots.size.toInt32 = v := by rw [← hv, ← hc, Array.length_toList]
    obtain ⟨s₂, o, h1, r⟩ := K p l e s m args below meth c T locs ⟨hx, hZ, hby, hml, hown, hrt, hlk, hnm⟩ X eT N
    exact ⟨s₂, o, X.arraylength hx (by rw [eT]; exact A.1) (State.isArrayOf_alike hZ.alike A.2.1) (g := mkF m pc L (.ref a :: S)) rfl rfl (hb hby hd) _ (by rw [e1]; exact h1), r⟩
theorem oGo.iaload {a : Addr} {j : Int32} {i : Nat} {vs : List Value} {v : Value} (hd : decode bytes pc = .ok (.iaload, 1)) (hq : pc + 1 = q) (A : Ars Z h a .int vs) (hi : j.toInt = (i : Int)) (hv : vs[i]? = some v) (K : oGo Z own nm bytes ml ret R n0 Q k n h q L (v :: S)) : oGo Z own nm bytes ml ret R n0 Q k n h pc L (.int j :: .ref a :: S) :=
  fun p l e s m args below meth c T locs Cx X eT N => by
    obtain ⟨hx, hZ, hby, hml, hown, hrt, hlk, hnm⟩ := Cx
    subst hq
    obtain ⟨cl, A, hc, -⟩ := A
    obtain ⟨s₂, o, h1, r⟩ := K p l e s m args below meth c T locs ⟨hx, hZ, hby, hml, hown, hrt, hlk, hnm⟩ X eT N
    exact ⟨s₂, o, X.iaload hx (by rw [eT]; exact A.1) (State.isArrayOf_alike hZ.alike A.2.1) A.2.2 (own_in hi hc (List.getElem?_eq_some_iff.mp hv).1) (own_at hi hc hv) (g := mkF m pc L (.int j :: .ref a :: S)) rfl rfl (hb hby hd) _ h1, r⟩
theorem oGo.laload {a : Addr} {j : Int32} {i : Nat} {vs : List Value} {v : Value} (hd : decode bytes pc = .ok (.laload, 1)) (hq : pc + 1 = q) (A : Ars Z h a .long vs) (hi : j.toInt = (i : Int)) (hv : vs[i]? = some v) (K : oGo Z own nm bytes ml ret R n0 Q k n h q L (v :: S)) : oGo Z own nm bytes ml ret R n0 Q k n h pc L (.int j :: .ref a :: S) :=
  fun p l e s m args below meth c T locs Cx X eT N => by
    obtain ⟨hx, hZ, hby, hml, hown, hrt, hlk, hnm⟩ := Cx
    subst hq
    obtain ⟨cl, A, hc, -⟩ := A
    obtain ⟨s₂, o, h1, r⟩ := K p l e s m args below meth c T locs ⟨hx, hZ, hby, hml, hown, hrt, hlk, hnm⟩ X eT N
    exact ⟨s₂, o, X.laload hx (by rw [eT]; exact A.1) (State.isArrayOf_alike hZ.alike A.2.1) A.2.2 (own_in hi hc (List.getElem?_eq_some_iff.mp hv).1) (own_at hi hc hv) (g := mkF m pc L (.int j :: .ref a :: S)) rfl rfl (hb hby hd) _ h1, r⟩
theorem oGo.baload {a : Addr} {j : Int32} {i : Nat} {vs : List Value} {v : Value} (hd : decode bytes pc = .ok (.baload, 1)) (hq : pc + 1 = q) (A : Ars Z h a .byte vs) (hi : j.toInt = (i : Int)) (hv : vs[i]? = some v) (K : oGo Z own nm bytes ml ret R n0 Q k n h q L (v :: S)) : oGo Z own nm bytes ml ret R n0 Q k n h pc L (.int j :: .ref a :: S) :=
  fun p l e s m args below meth c T locs Cx X eT N => by
    obtain ⟨hx, hZ, hby, hml, hown, hrt, hlk, hnm⟩ := Cx
    subst hq
    obtain ⟨cl, A, hc, -⟩ := A
    obtain ⟨s₂, o, h1, r⟩ := K p l e s m args below meth c T locs ⟨hx, hZ, hby, hml, hown, hrt, hlk, hnm⟩ X eT N
    exact ⟨s₂, o, X.baloadBytes hx (by rw [eT]; exact A.1) (State.isArrayOf_alike hZ.alike A.2.1) A.2.2 (own_in hi hc (List.getElem?_eq_some_iff.mp hv).1) (own_at hi hc hv) (g := mkF m pc L (.int j :: .ref a :: S)) rfl rfl (hb hby hd) _ h1, r⟩
theorem oGo.iastore {a : Addr} {j : Int32} {x : Int32} {i : Nat} {vs : List Value} (hd : decode bytes pc = .ok (.iastore, 1)) (hq : pc + 1 = q) (A : Ars Z h a .int vs) (hi : j.toInt = (i : Int)) (hl : i < vs.length) (ha : n0 ≤ a) (K : ∀ h', Keep h h' [a] → Ars Z h' a .int (vs.set i (.int x)) → oGo Z own nm bytes ml ret R n0 Q k n h' q L S) : oGo Z own nm bytes ml ret R n0 Q k n h pc L (.int x :: .int j :: .ref a :: S) :=
  fun p l e s m args below meth c T locs Cx X eT N => by
    obtain ⟨hx, hZ, hby, hml, hown, hrt, hlk, hnm⟩ := Cx
    subst hq
    obtain ⟨cl, A, hc, hf⟩ := A
    obtain ⟨T', h', X', e', W, st⟩ := Jvm.RoadKit.stI X hx hZ eT A (own_in hi hc hl) (g := mkF m pc L (.int x :: .int j :: .ref a :: S)) rfl rfl (hb hby hd)
    obtain ⟨s₂, o, h1, r⟩ := K h' (Keep.of_wr W) (Ars.wr hi A hc hf rfl W) p l e s m args below meth c T' _ ⟨hx, hZ, hby, hml, hown, hrt, hlk, hnm⟩ X' e' (Fr.snoc X' N ha)
    exact ⟨s₂, o, st _ h1, r⟩
theorem oGo.lastore {a : Addr} {j : Int32} {x : Int64} {i : Nat} {vs : List Value} (hd : decode bytes pc = .ok (.lastore, 1)) (hq : pc + 1 = q) (A : Ars Z h a .long vs) (hi : j.toInt = (i : Int)) (hl : i < vs.length) (ha : n0 ≤ a) (K : ∀ h', Keep h h' [a] → Ars Z h' a .long (vs.set i (.long x)) → oGo Z own nm bytes ml ret R n0 Q k n h' q L S) : oGo Z own nm bytes ml ret R n0 Q k n h pc L (.long x :: .int j :: .ref a :: S) :=
  fun p l e s m args below meth c T locs Cx X eT N => by
    obtain ⟨hx, hZ, hby, hml, hown, hrt, hlk, hnm⟩ := Cx
    subst hq
    obtain ⟨cl, A, hc, hf⟩ := A
    obtain ⟨T', h', X', e', W, st⟩ := Jvm.RoadKit.stJ X hx hZ eT A (own_in hi hc hl) (g := mkF m pc L (.long x :: .int j :: .ref a :: S)) rfl rfl (hb hby hd)
    obtain ⟨s₂, o, h1, r⟩ := K h' (Keep.of_wr W) (Ars.wr hi A hc hf rfl W) p l e s m args below meth c T' _ ⟨hx, hZ, hby, hml, hown, hrt, hlk, hnm⟩ X' e' (Fr.snoc X' N ha)
    exact ⟨s₂, o, st _ h1, r⟩
theorem oGo.bastore {a : Addr} {j x y : Int32} {i : Nat} {vs : List Value} (hd : decode bytes pc = .ok (.bastore, 1)) (hq : pc + 1 = q) (A : Ars Z h a .byte vs) (hi : j.toInt = (i : Int)) (hl : i < vs.length) (ha : n0 ≤ a) (hy : x.toInt8.toInt32 = y) (K : ∀ h', Keep h h' [a] → Ars Z h' a .byte (vs.set i (.int y)) → oGo Z own nm bytes ml ret R n0 Q k n h' q L S) : oGo Z own nm bytes ml ret R n0 Q k n h pc L (.int x :: .int j :: .ref a :: S) :=
  fun p l e s m args below meth c T locs Cx X eT N => by
    obtain ⟨hx, hZ, hby, hml, hown, hrt, hlk, hnm⟩ := Cx
    subst hq hy
    obtain ⟨cl, A, hc, hf⟩ := A
    obtain ⟨T', h', X', e', W, st⟩ := Jvm.RoadKit.stB X hx hZ eT A (own_in hi hc hl) (g := mkF m pc L (.int x :: .int j :: .ref a :: S)) rfl rfl (hb hby hd)
    obtain ⟨s₂, o, h1, r⟩ := K h' (Keep.of_wr W) (Ars.wr hi A hc hf (fits_nar_byte x) W) p l e s m args below meth c T' _ ⟨hx, hZ, hby, hml, hown, hrt, hlk, hnm⟩ X' e' (Fr.snoc X' N ha)
    exact ⟨s₂, o, st _ h1, r⟩
/-! small numbers -/
theorem own_oi {i : Nat} (hi : i < 2147483648) : (Int32.ofNat i).toInt = (i : Int) := Int32.toInt_ofNat_of_lt (by omega)
theorem own_oinc (i : Nat) : Int32.ofNat i + Int32.ofInt 1 = Int32.ofNat (i + 1) := (Int32.ofNat_add i 1).symm
theorem own_oadd {i m : Nat} {c : Int32} (hc : c = Int32.ofNat m) : Int32.ofNat i + c = Int32.ofNat (i + m) := by rw [hc]; exact (Int32.ofNat_add i m).symm
theorem own_oiadd {i m : Nat} {c : Int32} (hc : c = Int32.ofNat m) (h : i + m < 2147483648) : (Int32.ofNat i + c).toInt = ((i + m : Nat) : Int) := by rw [own_oadd hc]; exact own_oi h
theorem own_pred {i : Nat} (hi : i < 2147483647) : (Int32.ofNat (i + 1) - (1 : Int32)).toInt = (i : Int) := by
  have a := c_isub (Int32.ofNat (i + 1)) 1
  have e := own_oi (i := i + 1) (by omega)
  have z : (1 : Int32).toInt = 1 := by decide
  have r := rng32 (Int32.ofNat (i + 1) - 1)
  omega
theorem own_bb (x : Int32) : x.toInt8.toInt32.toInt8.toInt32 = x.toInt8.toInt32 := by
  apply Int32.toInt_inj.mp
  have h1 := c_i2b x
  have h2 := c_i2b x.toInt8.toInt32
  omega
def own_ints (vs : List Value) (n : Nat) : Prop := vs.length = n ∧ ∀ k, k < n → ∃ x : Int32, vs[k]? = some (.int x)
theorem own_ints.set {vs : List Value} {n i : Nat} {x : Int32} (u : own_ints vs n) : own_ints (vs.set i (.int x)) n := by
  refine ⟨by rw [List.length_set]; exact u.1, fun k hk => ?_⟩
  by_cases e : i = k
  · subst e; exact ⟨x, List.getElem?_set_self (by rw [u.1]; exact hk)⟩
  · rw [List.getElem?_set_ne e]; exact u.2 k hk
theorem own_irem (x y : Int32) (hx : 0 ≤ x.toInt) : (x % y).toInt = x.toInt % y.toInt := by rw [Int32.toInt_mod]; exact (tr _ _).1 hx
theorem own_lrem (x y : Int64) (hx : 0 ≤ x.toInt) : (x % y).toInt = x.toInt % y.toInt := by rw [Int64.toInt_mod]; exact (tr _ _).1 hx
theorem own_int32 {x y : Int32} (e : x.toInt = y.toInt) : x = y := Int32.toInt_inj.mp e
theorem own_int64 {x y : Int64} (e : x.toInt = y.toInt) : x = y := Int64.toInt_inj.mp e
theorem own_nat {x : Int32} {i : Nat} (e : x.toInt = (i : Int)) (hi : i < 2147483648) : x = Int32.ofNat i := own_int32 (e.trans (own_oi hi).symm)
/-! System.arraycopy -/
theorem Ars.arv {a : Addr} {ty : FieldType} {vs : List Value} (dv : Value) (A : Ars Z h a ty vs) (hl : vs.length < 2147483648) : ∃ k, Arv Z h a k ty (Int32.ofNat vs.length) vs dv := by
  obtain ⟨c, A, hc, hf⟩ := A
  have e1 : c.slots.size = vs.length := by rw [← hc, Array.length_toList]
  have e2 : (Int32.ofNat vs.length).toNatClampNeg = vs.length := own_cn (own_oi hl)
  refine ⟨c.cls, c, A, rfl, by rw [e1, e2], fun u => ?_, fun k hk => ?_, fun i hi => ?_⟩
  · have := Int32.lt_iff_toInt_lt.mp u
    have e0 : (0 : Int32).toInt = 0 := rfl
    rw [own_oi hl] at this
    omega
  · rw [e1] at hk
    rw [← Array.getElem?_toList, hc, List.getD_eq_getElem?_getD, List.getElem?_eq_getElem hk]
    rfl
  · rw [e1] at hi
    rw [List.getD_eq_getElem?_getD, List.getElem?_eq_getElem hi]
    exact hf _ (List.getElem_mem hi)
theorem Ars.of_arv {a : Addr} {ty : FieldType} {vs : List Value} {dv : Value} {z : Int32} {k : ClassId} (A : Arv Z h a k ty z vs dv) (hz : z.toNatClampNeg = vs.length) : Ars Z h a ty vs := by
  obtain ⟨c, A, -, e1, -, H, F⟩ := A
  rw [hz] at e1
  refine ⟨c, A, List.ext_getElem? fun i => ?_, fun v hv => ?_⟩
  · rw [Array.getElem?_toList]
    by_cases u : i < vs.length
    · rw [H i (by rw [e1]; exact u), List.getD_eq_getElem?_getD, List.getElem?_eq_getElem u]; rfl
    · rw [List.getElem?_eq_none (by omega), Array.getElem?_eq_none (by omega)]
  · obtain ⟨i, hi, rfl⟩ := List.mem_iff_getElem.mp hv
    have := F i (by rw [e1]; exact hi)
    rwa [List.getD_eq_getElem?_getD, List.getElem?_eq_getElem hi] at this
theorem own_us {vs : List Value} {si len : Nat} {dv : Value} (hl : si + len ≤ vs.length) : (vs.drop si).take len = (List.range len).map fun i => vs.getD (si + i) dv := by
  apply List.ext_getElem
  · simp; omega
  · intro i h1 h2
    simp only [List.length_map, List.length_range] at h2
    simp [List.getD_eq_getElem?_getD, List.getElem?_eq_getElem (show si + i < vs.length by omega)]
theorem own_nn {j : Int32} {i : Nat} (hi : j.toInt = (i : Int)) : ¬ j < 0 := fun u => by
  have := Int32.lt_iff_toInt_lt.mp u
  have e0 : (0 : Int32).toInt = 0 := rfl
  omega
theorem oGo.acopy {i W : Nat} {a b : Addr} {ty : FieldType} {vs vd : List Value} {sp dp nn : Int32} {si di len : Nat} (hd : decode bytes pc = .ok (.invokestatic i, 3)) (hq : pc + 3 = q)
    (w1 : (Cond.methodLink own i Jvm.Stand.acN).before a0 Z = true) (w2 : (Cond.native Jvm.Stand.acN).before a0 Z = true) (w3 : (Cond.static Jvm.Stand.acN).before a0 Z = true) (w4 : (Cond.initialized "java/lang/System").before a0 Z = true)
    (A : Ars Z h a ty vs) (B : Ars Z h b ty vd) (hty : refKind ty = false) (h1 : sp.toInt = (si : Int)) (h2 : dp.toInt = (di : Int)) (h3 : nn.toInt = (len : Int)) (h4 : si + len ≤ vs.length) (h5 : di + len ≤ vd.length) (l1 : vs.length < 2147483648) (l2 : vd.length < 2147483648) (ge : n0 ≤ b) (hL : L.size = ml) (hf : 1 ≤ R.frames) (hW : 2 * 0 + (S.map fun v => v.category).sum ≤ W) (hlo : W + (nativeFrameWords "java/lang/System" "arraycopy" 5 + 11) ≤ R.locals)
    (K : ∀ h', Keep h h' [b] → Ars Z h' b ty (vd.take di ++ (vs.drop si).take len ++ vd.drop (di + len)) → oGo Z own nm bytes ml ret R n0 Q k n h' q L S) : oGo Z own nm bytes ml ret R n0 Q k n h pc L (.int nn :: .int dp :: .ref b :: .int sp :: .ref a :: S) :=
  fun p l e s m args below meth c T locs Cx X eT N => by
    obtain ⟨hx, hZ, hby, hml, hown, hrt, hlk, hnm⟩ := Cx
    subst hq
    obtain ⟨k1, A'⟩ := A.arv .null l1
    obtain ⟨k2, B'⟩ := B.arv .null l2
    have c1 := own_cn h1
    have c2 := own_cn h2
    have c3 := own_cn h3
    have e1 := own_cn (own_oi l1)
    have e2 := own_cn (own_oi l2)
    obtain ⟨T', h', L', X', e', N', K', B'', st⟩ := cpA X hx hZ hown w1 w2 w3 w4 eT A' B' (Or.inl ⟨rfl, hty⟩) (own_nn h1) (own_nn h2) (own_nn h3) (by rw [c1, c3, e1]; exact h4) (by rw [c2, c3, e2]; exact h5) rfl (by rw [c2, c3]; exact h5) N ge (g := mkF m pc L (.int nn :: .int dp :: .ref b :: .int sp :: .ref a :: S)) rfl (by rw [hml]; exact hL) rfl (hb hby hd) hf hW hlo
    rw [c1, c2, c3, ← own_us h4] at B''
    obtain ⟨s₂, o, g1, r⟩ := K h' K' (Ars.of_arv B'' (by rw [e2]; simp only [List.length_append, List.length_take, List.length_drop]; omega)) p l e s m args below meth c T' L' ⟨hx, hZ, hby, hml, hown, hrt, hlk, hnm⟩ X' e' N'
    exact ⟨s₂, o, st _ g1, r⟩
theorem oGo.clone {i W : Nat} {ad : String} {a : Addr} {ty : FieldType} {vs : List Value} (cap : Nat) (hd : decode bytes pc = .ok (.invokevirtual i, 3)) (hq : pc + 3 = q)
    (w1 : (Cond.methodLink own i ⟨ad, "clone", "()Ljava/lang/Object;"⟩).before a0 Z = true) (w2 : (Cond.sameMethod ad "java/lang/Object" "clone" "()Ljava/lang/Object;").before a0 Z = true) (w3 : (Cond.native ⟨"java/lang/Object", "clone", "()Ljava/lang/Object;"⟩).before a0 Z = true)
    (w4 : (Cond.instanceMethod ⟨"java/lang/Object", "clone", "()Ljava/lang/Object;"⟩).before a0 Z = true) (w5 : (Cond.selects ad ⟨ad, "clone", "()Ljava/lang/Object;"⟩ ⟨"java/lang/Object", "clone", "()Ljava/lang/Object;"⟩).before a0 Z = true) (w6 : (Cond.castable ad "java/lang/Cloneable").before a0 Z = true)
    (A : Ars Z h a ty vs) (E : Exa Z h a ad) (hl : vs.length < 2147483648) (hcap : vs.length ≤ cap) (hL : L.size = ml) (hf : 1 ≤ R.frames) (hW : 2 * 0 + (S.map fun v => v.category).sum ≤ W) (hlo : W + 14 ≤ R.locals) (hc : k + 1 ≤ R.cells) (hs : n + cap ≤ R.slots)
    (K : ∀ h' b, b = h.size → Keep h h' [] → Ars Z h' b ty vs → Exa Z h' b ad → oGo Z own nm bytes ml ret R n0 Q (k + 1) (n + cap) h' q L (.ref b :: S)) : oGo Z own nm bytes ml ret R n0 Q k n h pc L (.ref a :: S) :=
  fun p l e s m args below meth c T locs Cx X eT N => by
    obtain ⟨hx, hZ, hby, hml, hown, hrt, hlk, hnm⟩ := Cx
    subst hq
    obtain ⟨k1, A'⟩ := A.arv .null hl
    have e1 := own_cn (own_oi hl)
    obtain ⟨T', h', X', e', Ex, B', EB, st⟩ := cloneH X hx hZ hown w1 w2 w3 w4 w5 w6 eT A'.arh E (g := mkF m pc L (.ref a :: S)) rfl (by rw [hml]; exact hL) rfl (hb hby hd) hf hW hlo (cap := cap) (by rw [e1]; exact hcap) hc hs
    obtain ⟨s₂, o, g1, r⟩ := K h' h.size rfl (own_keep Ex) (Ars.of_arv (show Arv Z h' h.size k1 ty (Int32.ofNat vs.length) vs .null from B') e1) EB p l e s m args below meth c T' locs ⟨hx, hZ, hby, hml, hown, hrt, hlk, hnm⟩ X' e' N
    exact ⟨s₂, o, st _ g1, r⟩
theorem oGo.callP {y : MethodName} {i W kk : Nat} {bytes' : ByteArray} {ml' : Nat} {ret' : Option FieldType} {rm : Room} {as : Array Value} {Q' : Option Value → Heap → Prop} {ps : List FieldType} {rt : Option FieldType} {a : Addr} {C : String} (argsL rest : List Value) (hd : decode bytes pc = .ok (.invokevirtual i, 3)) (hq : pc + 3 = q)
    (w1 : (Cond.methodLink own i y).before a0 Z = true) (w2 : (Cond.instanceMethod y).before a0 Z = true) (wp : (Cond.privateMethod y).before a0 Z = true) (wi : (Cond.instantiable y.cls kk).before a0 Z = true) (w3 : (Cond.initialized y.cls).before a0 Z = true) (w4 : (Cond.code y bytes' ml' ret').before a0 Z = true) (hy : y.cls ≠ "java/lang/invoke/MethodHandle" ∧ y.cls ≠ "java/lang/invoke/VarHandle") (E : Exa Z h a C)
    (hC : oCon Z y bytes' ml' ret' rm as h n0 Q') (hS : S = argsL.reverse ++ .ref a :: rest) (has : (.ref a :: argsL).toArray = as) (hpd : parseMethodDescriptor y.desc = some ⟨ps, rt⟩) (hlen : argsL.length = ps.length) (hL : L.size = ml) (hW : 2 * 0 + (rest.map fun v => v.category).sum ≤ W) (hf : rm.frames + 1 ≤ R.frames) (hl : W + (ml' + 11) + rm.locals ≤ R.locals) (hc : k + rm.cells ≤ R.cells) (hs : n + rm.slots ≤ R.slots)
    (K : ∀ v h', Q' v h' → oGo Z own nm bytes ml ret R n0 Q (k + rm.cells) (n + rm.slots) h' q L (v.toList ++ rest)) : oGo Z own nm bytes ml ret R n0 Q k n h pc L S :=
  fun p l e s m args below meth c T locs Cx X eT N => by
    obtain ⟨hx, hZ, hby, hml, hown, hrt, hlk, hnm⟩ := Cx
    subst hq
    obtain ⟨cq, q1, q2⟩ := E.cell
    have hpr := Cond.privateMethod_at (mvP hZ wp (args := #[]))
    have hin : (Cond.instanceMethod y).before args s = true := mvT hZ w2
    obtain ⟨ci, ki, i1, i2, -, i4, -, -⟩ := Cond.instantiable_spec (show (Cond.instantiable y.cls kk).before args s = true from mvT hZ wi)
    have hsel := selects_self_of_private (args := args) i1 i2 (by simp only [Bool.or_eq_false_iff] at i4; exact i4.1) hpr hin hy
    obtain ⟨v, _, ⟨T', L2, k2, n2⟩, -, X', ⟨Lc, hQ', l', y', z'⟩, st⟩ := X.privateBack hx (y := y) hown (mvT hZ w1) hin hsel hpr (mvT hZ w4) hy (backOf (W := W) (Q := fun v h' L => Q' v h' ∧ Fr n0 L) (hC l []) hZ w4 w3 hf hl) (g := mkF m pc L S) rfl (by rw [hml]; exact hL) (Steps.refl _) (a := a) (by rw [eT]; exact q1) q2 (argsL := argsL) (rest := rest) (lenOf hpd hlen) hS hW (hb hby hd) (fun _ _ => ⟨has, eT, hc, hs⟩)
    dsimp only [Pt.U, Pt.locs, Pt.cells, Pt.slots] at X' l' y' z' st hQ'
    subst l' y' z'
    obtain ⟨s₂, o, h1, r⟩ := K v T'.heap hQ'.1 p l e s m args below meth c T' _ ⟨hx, hZ, hby, hml, hown, hrt, hlk, hnm⟩ X' rfl (Fr.app N hQ'.2)
    exact ⟨s₂, o, st.trans h1, r⟩
/-! booleans -/
def own_b (b : Int32) (P : Prop) : Prop := (b = 1 ∧ P) ∨ (b = 0 ∧ ¬ P)
theorem own_b.t {P : Prop} (hp : P) : own_b 1 P := Or.inl ⟨rfl, hp⟩
theorem own_b.f {P : Prop} (hp : ¬ P) : own_b 0 P := Or.inr ⟨rfl, hp⟩
theorem own_b.z {b : Int32} {P : Prop} (u : own_b b P) (hb : b = 0) : ¬ P := by
  rcases u with ⟨rfl, _⟩ | ⟨_, u⟩
  · exact absurd hb (by decide)
  · exact u
theorem own_b.nz {b : Int32} {P : Prop} (u : own_b b P) (hb : b ≠ 0) : P := by
  rcases u with ⟨_, u⟩ | ⟨rfl, _⟩
  · exact u
  · exact absurd rfl hb
theorem own_b.nar {b : Int32} {P : Prop} (u : own_b b P) : nar .boolean b = b := by
  rcases u with ⟨rfl, _⟩ | ⟨rfl, _⟩ <;> rfl
theorem own_b.eq {b c : Int32} {P P' : Prop} (u : own_b b P) (v : own_b c P') (hp : P ↔ P') : b = c := by
  rcases u with ⟨rfl, u⟩ | ⟨rfl, u⟩ <;> rcases v with ⟨rfl, v⟩ | ⟨rfl, v⟩
  · rfl
  · exact absurd (hp.mp u) v
  · exact absurd (hp.mpr v) u
  · rfl
theorem own_b.is0 {b : Int32} {P : Prop} (u : own_b b P) (hp : ¬ P) : b = 0 := u.elim (fun z => absurd z.2 hp) (fun z => z.1)
theorem own_b.is1 {b : Int32} {P : Prop} (u : own_b b P) (hp : P) : b = 1 := u.elim (fun z => z.1) (fun z => absurd hp z.2)
theorem own_b.iff {b : Int32} {P P' : Prop} (u : own_b b P) (hp : P ↔ P') : own_b b P' := u.imp (fun z => ⟨z.1, hp.mp z.2⟩) (fun z => ⟨z.1, fun y => z.2 (hp.mpr y)⟩)
end Own
section OwnW
variable {Z : State} {own nm : String} {bytes : ByteArray} {ml : Nat} {ret : Option FieldType} {R : Room} {n0 : Nat} {Q : Option Value → Heap → Prop} {k n : Nat} {h : Heap} {pc q r : Nat} {L L' : Array Slot} {S S' : List Value} {a0 : Array Value}
def wGo (Z : State) (own nm : String) (bytes : ByteArray) (ml : Nat) (ret : Option FieldType) (R : Room) (n0 : Nat) (Q : Option Value → Heap → Prop) (k n : Nat) (h : Heap) (pc : Nat) (L : Array Slot) (S : List Value) : Prop :=
  ∀ (p : Program) (l : Launch) (e : Env) (s : State) (m : MethodId) (args : Array Value) (below : List Frame) (meth : Method) (c : Code) (T : State) (locs : List Loc),
    oCtx p s m meth c Z own nm bytes ml ret → Stand p l e R s m args below meth c T locs k n → T.heap = h → Fr n0 locs →
    ∃ s₂ o, Steps p.tables e below (T.setTop (mkF m pc L S)) s₂ ∧ s₂.status = .running ∧ Ended s₂ below o ∧ ∃ v L', o = .returned v ∧ (Q v s₂.heap ∧ Fr n0 L') ∧ ReturnedEndW s o s₂ L' R.cells R.slots
def wCon (Z : State) (y : MethodName) (bytes : ByteArray) (ml : Nat) (ret : Option FieldType) (rm : Room) (as : Array Value) (h : Heap) (n0 : Nat) (Q : Option Value → Heap → Prop) : Prop :=
  ∀ (l : Launch) (ws : List Jvm.Cond), MetFree l y (head1 (Jvm.Cond.code y bytes ml ret :: ws) rm) (fun a U => a = as ∧ Z.Warmed39 U.vm ∧ U.heap = h) (fun _ _ _ _ _ => True) (fun _ U o U' => ∃ v L, o = .returned v ∧ (Q v U'.heap ∧ Fr n0 L) ∧ ReturnedEndW U o U' L rm.cells rm.slots)
theorem wCon.of {y : MethodName} {rm : Room} {as : Array Value} {L0 : Array Slot} (hp : plainFor y = true) (he : ∀ m, entryFrame m as ml = mkF m 0 L0 []) (K : wGo Z y.cls y.name bytes ml ret rm n0 Q 0 0 h 0 L0 []) : wCon Z y bytes ml ret rm as h n0 Q := by
  intro l ws
  refine MetFree.of_bodySF hp hisR ?_
  intro p e s m args below meth c s₁ Bd hml0 hP hK
  obtain ⟨rfl, hZ, hh⟩ := hP
  have e0 : s₁.heap = h := by rw [← hh, Bd.state]; rfl
  obtain ⟨s₂, o, h1, h2, h3, h4⟩ := K p l e s m args below meth c s₁ [] ⟨Bd.exec, hZ, Bd.bytes, hml0, findClass_of_methodNamed Bd.named, Bd.returns, Bd.notSynchronized, (name_of_methodNamed Bd.named Bd.method).1⟩ (Stand.of_body Bd) e0 (Fr.nil n0)
  exact ⟨s₂, o, castTop (he m) h1, h2, h3, h4⟩
theorem wGo.more {k' n' : Nat} (hk : k ≤ k') (hn : n ≤ n') (K : wGo Z own nm bytes ml ret R n0 Q k' n' h pc L S) : wGo Z own nm bytes ml ret R n0 Q k n h pc L S :=
  fun p l e s m args below meth c T locs C X eT N => K p l e s m args below meth c T locs C (X.more hk hn) eT N
theorem wGo.st (H : ∀ (p : Program) (e : Env) (m : MethodId) (below : List Frame) (c : Code) (T : State), p.tables.exec = Jvm.exec → c.code = bytes → At T m c below → ∀ t, Steps p.tables e below (T.setTop (mkF m q L' S')) t → Steps p.tables e below (T.setTop (mkF m pc L S)) t) (K : wGo Z own nm bytes ml ret R n0 Q k n h q L' S') : wGo Z own nm bytes ml ret R n0 Q k n h pc L S :=
  fun p l e s m args below meth c T locs C X eT N => by
    obtain ⟨s₂, o, h1, r⟩ := K p l e s m args below meth c T locs C X eT N
    exact ⟨s₂, o, H p e m below c T C.1 C.2.2.1 X.here s₂ h1, r⟩
theorem wGo.iadd {x y : Int32} (hd : decode bytes pc = .ok (.iadd, 1)) (hq : pc + 1 = q) (K : wGo Z own nm bytes ml ret R n0 Q k n h q L (.int (x + y) :: S)) : wGo Z own nm bytes ml ret R n0 Q k n h pc L (.int y :: .int x :: S) := by
  subst hq; exact wGo.st (fun p e m below c T hx hby hA t k => XS.iadd hA hx rfl (hb hby hd) rfl k) K
theorem wGo.iand {x y : Int32} (hd : decode bytes pc = .ok (.iand, 1)) (hq : pc + 1 = q) (K : wGo Z own nm bytes ml ret R n0 Q k n h q L (.int (x &&& y) :: S)) : wGo Z own nm bytes ml ret R n0 Q k n h pc L (.int y :: .int x :: S) := by
  subst hq; exact wGo.st (fun p e m below c T hx hby hA t k => XS.iand hA hx rfl (hb hby hd) rfl k) K
theorem wGo.i2c {x : Int32} (hd : decode bytes pc = .ok (.i2c, 1)) (hq : pc + 1 = q) (K : wGo Z own nm bytes ml ret R n0 Q k n h q L (.int (x.toUInt32.toUInt16.toUInt32.toInt32) :: S)) : wGo Z own nm bytes ml ret R n0 Q k n h pc L (.int x :: S) := by
  subst hq; exact wGo.st (fun p e m below c T hx hby hA t k => XS.i2c hA hx rfl (hb hby hd) rfl k) K
theorem wGo.iconst {i : Int} {v : Int32} (hd : decode bytes pc = .ok (.iconst i, 1)) (hq : pc + 1 = q) (hv : Int32.ofInt i = v) (K : wGo Z own nm bytes ml ret R n0 Q k n h q L (.int v :: S)) : wGo Z own nm bytes ml ret R n0 Q k n h pc L S := by
  subst hq hv; exact wGo.st (fun p e m below c T hx hby hA t k => XS.iconst hA hx rfl (hb hby hd) k) K
theorem wGo.bipush {i : Int} {v : Int32} (hd : decode bytes pc = .ok (.bipush i, 2)) (hq : pc + 2 = q) (hv : (Int8.ofInt i).toInt32 = v) (K : wGo Z own nm bytes ml ret R n0 Q k n h q L (.int v :: S)) : wGo Z own nm bytes ml ret R n0 Q k n h pc L S := by
  subst hq hv; exact wGo.st (fun p e m below c T hx hby hA t k => XS.bipush hA hx rfl (hb hby hd) k) K
theorem wGo.sipush {i : Int} {v : Int32} (hd : decode bytes pc = .ok (.sipush i, 3)) (hq : pc + 3 = q) (hv : (Int16.ofInt i).toInt32 = v) (K : wGo Z own nm bytes ml ret R n0 Q k n h q L (.int v :: S)) : wGo Z own nm bytes ml ret R n0 Q k n h pc L S := by
  subst hq hv; exact wGo.st (fun p e m below c T hx hby hA t k => XS.sipush hA hx rfl (hb hby hd) k) K
theorem wGo.aconstNull (hd : decode bytes pc = .ok (.aconst_null, 1)) (hq : pc + 1 = q) (K : wGo Z own nm bytes ml ret R n0 Q k n h q L (.null :: S)) : wGo Z own nm bytes ml ret R n0 Q k n h pc L (S) := by
  subst hq; exact wGo.st (fun p e m below c T hx hby hA t k => XS.aconstNull hA hx rfl (hb hby hd) k) K
theorem wGo.iload {i : Nat} {v : Int32} (hd : decode bytes pc = .ok (.iload i, 2)) (hq : pc + 2 = q) (hl : L[i]? = some (.val (.int v))) (K : wGo Z own nm bytes ml ret R n0 Q k n h q L (.int v :: S)) : wGo Z own nm bytes ml ret R n0 Q k n h pc L S := by
  subst hq; exact wGo.st (fun p e m below c T hx hby hA t k => XS.iload hA hx rfl (hb hby hd) hl k) K
theorem wGo.iloadN {i : Fin 4} {v : Int32} (hd : decode bytes pc = .ok (.iload_n i, 1)) (hq : pc + 1 = q) (hl : L[i.val]? = some (.val (.int v))) (K : wGo Z own nm bytes ml ret R n0 Q k n h q L (.int v :: S)) : wGo Z own nm bytes ml ret R n0 Q k n h pc L S := by
  subst hq; exact wGo.st (fun p e m below c T hx hby hA t k => XS.iloadN hA hx rfl (hb hby hd) hl k) K
theorem wGo.istoreN {i : Fin 4} {v : Int32} (hd : decode bytes pc = .ok (.istore_n i, 1)) (hq : pc + 1 = q) (hl : storeLocals L i.val (.int v) = some L') (K : wGo Z own nm bytes ml ret R n0 Q k n h q L' S) : wGo Z own nm bytes ml ret R n0 Q k n h pc L (.int v :: S) := by
  subst hq; exact wGo.st (fun p e m below c T hx hby hA t k => XS.istoreN hA hx rfl (hb hby hd) rfl hl k) K
theorem wGo.aload {i : Nat} {v : Value} (hd : decode bytes pc = .ok (.aload i, 2)) (hq : pc + 2 = q) (hl : L[i]? = some (.val v)) (hv : v.isRef = true) (K : wGo Z own nm bytes ml ret R n0 Q k n h q L (v :: S)) : wGo Z own nm bytes ml ret R n0 Q k n h pc L S := by
  subst hq; exact wGo.st (fun p e m below c T hx hby hA t k => XS.aload hA hx rfl (hb hby hd) hl hv k) K
theorem wGo.aloadN {i : Fin 4} {v : Value} (hd : decode bytes pc = .ok (.aload_n i, 1)) (hq : pc + 1 = q) (hl : L[i.val]? = some (.val v)) (hv : v.isRef = true) (K : wGo Z own nm bytes ml ret R n0 Q k n h q L (v :: S)) : wGo Z own nm bytes ml ret R n0 Q k n h pc L S := by
  subst hq; exact wGo.st (fun p e m below c T hx hby hA t k => XS.aloadN hA hx rfl (hb hby hd) hl hv k) K
theorem wGo.dup {v : Value} (hd : decode bytes pc = .ok (.dup, 1)) (hq : pc + 1 = q) (hc : v.category = 1) (K : wGo Z own nm bytes ml ret R n0 Q k n h q L (v :: v :: S)) : wGo Z own nm bytes ml ret R n0 Q k n h pc L (v :: S) := by
  subst hq; exact wGo.st (fun p e m below c T hx hby hA t k => XS.dup hA hx rfl (hb hby hd) rfl hc k) K
theorem wGo.callS {y : MethodName} {i W : Nat} {bytes' : ByteArray} {ml' : Nat} {ret' : Option FieldType} {rm : Room} {as : Array Value} {Q' : Option Value → Heap → Prop} {ps : List FieldType} {rt : Option FieldType} (argsL rest : List Value) (hd : decode bytes pc = .ok (.invokestatic i, 3)) (hq : pc + 3 = q)
    (w1 : (Cond.methodLink own i y).before a0 Z = true) (w2 : (Cond.static y).before a0 Z = true) (w3 : (Cond.initialized y.cls).before a0 Z = true) (w4 : (Cond.code y bytes' ml' ret').before a0 Z = true) (hy : y.cls ≠ "java/lang/invoke/MethodHandle" ∧ y.cls ≠ "java/lang/invoke/VarHandle")
    (hC : oCon Z y bytes' ml' ret' rm as h n0 Q') (hS : S = argsL.reverse ++ rest) (has : argsL.toArray = as) (hpd : parseMethodDescriptor y.desc = some ⟨ps, rt⟩) (hlen : argsL.length = ps.length) (hL : L.size = ml) (hW : 2 * 0 + (rest.map fun v => v.category).sum ≤ W) (hf : rm.frames + 1 ≤ R.frames) (hl : W + (ml' + 11) + rm.locals ≤ R.locals) (hc : k + rm.cells ≤ R.cells) (hs : n + rm.slots ≤ R.slots)
    (K : ∀ v h', Q' v h' → wGo Z own nm bytes ml ret R n0 Q (k + rm.cells) (n + rm.slots) h' q L (v.toList ++ rest)) : wGo Z own nm bytes ml ret R n0 Q k n h pc L S :=
  fun p l e s m args below meth c T locs C X eT N => by
    obtain ⟨hx, hZ, hby, hml, hown, hrt, hlk, hnm⟩ := C
    subst hq
    obtain ⟨v, _, ⟨T', L2, k2, n2⟩, -, X', ⟨Lc, hQ', l', y', z'⟩, st⟩ := Jvm.LawKit.callS X hx (y := y) hown (mvT hZ w1) (mvT hZ w2) (mvT hZ w3) (mvT hZ w4) hy (backOf (W := W) (Q := fun v h' L => Q' v h' ∧ Fr n0 L) (hC l []) hZ w4 w3 hf hl) (g := mkF m pc L S) rfl (by rw [hml]; exact hL) (argsL := argsL) (rest := rest) (lenOf hpd hlen) hS hW (hb hby hd) (fun _ _ => ⟨has, eT, hc, hs⟩)
    dsimp only [Pt.U, Pt.locs, Pt.cells, Pt.slots] at X' l' y' z' st hQ'
    subst l' y' z'
    obtain ⟨s₂, o, h1, r⟩ := K v T'.heap hQ'.1 p l e s m args below meth c T' _ ⟨hx, hZ, hby, hml, hown, hrt, hlk, hnm⟩ X' rfl (Fr.app N hQ'.2)
    exact ⟨s₂, o, st _ h1, r⟩
theorem wGo.callI {y : MethodName} {i W : Nat} {bytes' : ByteArray} {ml' : Nat} {rm : Room} {as : Array Value} {Q' : Option Value → Heap → Prop} {ps : List FieldType} {rt : Option FieldType} {a : Addr} (argsL rest : List Value) (hd : decode bytes pc = .ok (.invokespecial i, 3)) (hq : pc + 3 = q) (hy1 : y.name = "<init>")
    (w1 : (Cond.methodLink own i y).before a0 Z = true) (w2 : (Cond.instanceMethod y).before a0 Z = true) (w3 : (Cond.initialized y.cls).before a0 Z = true) (w4 : (Cond.code y bytes' ml' none).before a0 Z = true) (hy : y.cls ≠ "java/lang/invoke/MethodHandle" ∧ y.cls ≠ "java/lang/invoke/VarHandle")
    (hC : oCon Z y bytes' ml' none rm as h n0 Q') (hS : S = argsL.reverse ++ .ref a :: rest) (has : (.ref a :: argsL).toArray = as) (hpd : parseMethodDescriptor y.desc = some ⟨ps, rt⟩) (hlen : argsL.length = ps.length) (hL : L.size = ml) (hW : 2 * 0 + (rest.map fun v => v.category).sum ≤ W) (hf : rm.frames + 1 ≤ R.frames) (hl : W + (ml' + 11) + rm.locals ≤ R.locals) (hc : k + rm.cells ≤ R.cells) (hs : n + rm.slots ≤ R.slots)
    (K : ∀ v h', Q' v h' → wGo Z own nm bytes ml ret R n0 Q (k + rm.cells) (n + rm.slots) h' q L (v.toList ++ rest)) : wGo Z own nm bytes ml ret R n0 Q k n h pc L S :=
  fun p l e s m args below meth c T locs C X eT N => by
    obtain ⟨hx, hZ, hby, hml, hown, hrt, hlk, hnm⟩ := C
    subst hq
    obtain ⟨v, _, ⟨T', L2, k2, n2⟩, -, X', ⟨Lc, hQ', l', y', z'⟩, st⟩ := X.specialBack hx (y := y) hy1 hown (mvT hZ w1) (mvT hZ w2) (mvT hZ w4) hy (backOf (W := W) (Q := fun v h' L => Q' v h' ∧ Fr n0 L) (hC l []) hZ w4 w3 hf hl) (g := mkF m pc L S) rfl (by rw [hml]; exact hL) (Steps.refl _) (a := a) (argsL := argsL) (rest := rest) (lenOf hpd hlen) hS hW (hb hby hd) (fun _ _ => ⟨has, eT, hc, hs⟩)
    dsimp only [Pt.U, Pt.locs, Pt.cells, Pt.slots] at X' l' y' z' st hQ'
    subst l' y' z'
    obtain ⟨s₂, o, h1, r⟩ := K v T'.heap hQ'.1 p l e s m args below meth c T' _ ⟨hx, hZ, hby, hml, hown, hrt, hlk, hnm⟩ X' rfl (Fr.app N hQ'.2)
    exact ⟨s₂, o, st.trans h1, r⟩
theorem wGo.initO {i W : Nat} {a : Addr} (hd : decode bytes pc = .ok (.invokespecial i, 3)) (hq : pc + 3 = q) (w1 : (Cond.methodLink own i Lib.objectInit).before a0 Z = true) (w2 : (Cond.instanceMethod Lib.objectInit).before a0 Z = true) (w3 : (Cond.code Lib.objectInit ⟨#[0xb1]⟩ 1 none).before a0 Z = true) (hL : L.size = ml) (hf : 1 ≤ R.frames) (hW : 2 * 0 + (S.map fun v => v.category).sum ≤ W) (hl : W + 12 ≤ R.locals) (K : wGo Z own nm bytes ml ret R n0 Q k n h q L S) : wGo Z own nm bytes ml ret R n0 Q k n h pc L (.ref a :: S) :=
  fun p l e s m args below meth c T locs C X eT N => by
    obtain ⟨hx, hZ, hby, hml, hown, hrt, hlk, hnm⟩ := C
    subst hq
    obtain ⟨T', X', e', st⟩ := Jvm.RoadKit.initO X hx hZ hown w1 w2 w3 eT (g := mkF m pc L (.ref a :: S)) rfl (by rw [hml]; exact hL) rfl (hb hby hd) hf hW hl
    obtain ⟨s₂, o, h1, r⟩ := K p l e s m args below meth c T' locs ⟨hx, hZ, hby, hml, hown, hrt, hlk, hnm⟩ X' e' N
    exact ⟨s₂, o, st _ h1, r⟩
theorem wGo.newO {C : String} {i nn : Nat} (hd : decode bytes pc = .ok (.new i, 3)) (hq : pc + 3 = q) (w : (Cond.classLink own i C).before a0 Z = true) (wi : (Cond.instantiable C nn).before a0 Z = true) (wz : (Cond.initialized C).before a0 Z = true) (hc : k + 1 ≤ R.cells) (hs : n + nn ≤ R.slots)
    (K : ∀ h' a, a = h.size → Keep h h' [] → Exa Z h' a C → (∀ {O f d : String} {ty : FieldType}, Laid Z a0 C O f d → parseFieldDescriptor d = some ty → Fld Z h' a O f d (defaultValue ty)) → wGo Z own nm bytes ml ret R n0 Q (k + 1) (n + nn) h' q L (.ref a :: S)) : wGo Z own nm bytes ml ret R n0 Q k n h pc L S :=
  fun p l e s m args below meth c T locs Cx X eT N => by
    obtain ⟨hx, hZ, hby, hml, hown, hrt, hlk, hnm⟩ := Cx
    subst hq
    obtain ⟨T', h', X', e', E, A, D, -, st⟩ := Jvm.RoadKit.newO X hx hZ hown w wi wz eT (g := mkF m pc L S) rfl (hb hby hd) hc hs
    obtain ⟨s₂, o, h1, r⟩ := K h' h.size rfl (own_keep E) A D p l e s m args below meth c T' locs ⟨hx, hZ, hby, hml, hown, hrt, hlk, hnm⟩ X' e' N
    exact ⟨s₂, o, st _ h1, r⟩
theorem wGo.getF {R0 O f d host : String} {i : Nat} {a : Addr} {v : Value} (hd : decode bytes pc = .ok (.getfield i, 3)) (hq : pc + 3 = q) (w : (Cond.fieldLink own i R0 f d).before a0 Z = true ∨ (Cond.fieldLinkNest own i R0 f d host).before a0 Z = true) (via : Via Z R0 O f d) (F : Fld Z h a O f d v) (K : wGo Z own nm bytes ml ret R n0 Q k n h q L (v :: S)) : wGo Z own nm bytes ml ret R n0 Q k n h pc L (.ref a :: S) :=
  fun p l e s m args below meth c T locs C X eT N => by
    obtain ⟨hx, hZ, hby, hml, hown, hrt, hlk, hnm⟩ := C
    subst hq
    obtain ⟨T', X', e', st⟩ := Jvm.RoadKit.getF X hx hZ hown w via eT F (g := mkF m pc L (.ref a :: S)) rfl rfl (hb hby hd)
    obtain ⟨s₂, o, h1, r⟩ := K p l e s m args below meth c T' locs ⟨hx, hZ, hby, hml, hown, hrt, hlk, hnm⟩ X' e' N
    exact ⟨s₂, o, st _ h1, r⟩
theorem wGo.putF {R0 O f d host C : String} {i kk : Nat} {ty : FieldType} {a : Addr} {v w0 : Value} (hd : decode bytes pc = .ok (.putfield i, 3)) (hq : pc + 3 = q) (w : (Cond.fieldLink own i R0 f d).before a0 Z = true ∨ (Cond.fieldLinkNest own i R0 f d host).before a0 Z = true) (via : Via Z R0 O f d) (F : Fld Z h a O f d w0) (E : Exa Z h a C)
    (Lw : (Cond.lays C O f d).before a0 Z = true ∨ ((Cond.laysFinal C O f d).before a0 Z = true ∧ own = O ∧ nm = "<init>")) (wi : (Cond.instantiable C kk).before a0 Z = true) (hty : parseFieldDescriptor d = some ty) (hn : narrow ty v = v) (hf : fits ty v = true) (ha : n0 ≤ a)
    (K : ∀ h', Keep h h' [a] → Exa Z h' a C → Fld Z h' a O f d v → (∀ {O' f' d' : String} {u : Value}, Jvm.RoadKit.slotOf Z O' f' d' ≠ Jvm.RoadKit.slotOf Z O f d → Fld Z h a O' f' d' u → Fld Z h' a O' f' d' u) → wGo Z own nm bytes ml ret R n0 Q k n h' q L S) : wGo Z own nm bytes ml ret R n0 Q k n h pc L (v :: .ref a :: S) :=
  fun p l e s m args below meth c T locs Cx X eT N => by
    obtain ⟨hx, hZ, hby, hml, hown, hrt, hlk, hnm⟩ := Cx
    subst hq
    obtain ⟨T', h', X', e', W, st⟩ := Jvm.RoadKit.putF X hx hZ hown w via eT F E (Lw.imp id fun u => ⟨u.1, u.2.1, hnm.trans u.2.2⟩) wi hty hn hf (g := mkF m pc L (v :: .ref a :: S)) rfl rfl (hb hby hd)
    obtain ⟨s₂, o, h1, r⟩ := K h' (Keep.of_wr W) (E.wr W) (F.same W) (fun hne G => G.other W (Or.inr hne)) p l e s m args below meth c T' _ ⟨hx, hZ, hby, hml, hown, hrt, hlk, hnm⟩ X' e' (Fr.snoc X' N ha)
    exact ⟨s₂, o, st _ h1, r⟩
theorem own_ended {s s₂ : State} {vm₁ : Vm} {k1 : Nat} {o : Outcome} {L' : List Loc} {rc rs : Nat} (hS : s.Since vm₁ k1) (hk : k1 ≤ s₂.heap.size) (F : FrameEnd (s.setVm vm₁) o s₂ L' rc rs) : ReturnedEndW s o s₂ L' rc rs := by
  obtain ⟨h1, h2, h3⟩ := F
  obtain ⟨g1, g2, g3⟩ := hS.ended h2 hk h3
  exact ⟨h1, g1, g2, g3⟩
theorem wGo.ldcS {i nn : Nat} {text : String} (hd : decode bytes pc = .ok (.ldc i, 2)) (hq : pc + 2 = q) (w : (Cond.stringLink own i text).before a0 Z = true) (wS : ∀ a ∈ Bundle.stringAtoms, a.before a0 Z = true) (hnn : 4 * text.toList.length ≤ nn) (hbig : nn ≤ 536870912) (hc : k + 2 ≤ R.cells) (hl : n + (nn + 4) ≤ R.slots)
    (K : ∀ h' a, Keep h h' [] → oGo Z own nm bytes ml ret R n0 (fun v h'' => Q v h'' ∧ h'.size ≤ h''.size) (k + 2) (n + (nn + 4)) h' q L (.ref a :: S)) : wGo Z own nm bytes ml ret R n0 Q k n h pc L S :=
  fun p l e s m args below meth c T locs C X eT N => by
    obtain ⟨hx, hZ, hby, hml, hown, hrt, hlk, hnm⟩ := C
    subst hq
    obtain ⟨a, T', h', k1, X', e', E, hS, hk1, hZ', hown', st⟩ := Jvm.RoadKit.ldcS (s := s) (vm0 := s.vm) X hx hZ hown w wS eT (k0 := h.size) ((State.WarmedH.refl s).since h.size) (Nat.le_refl _) (g := mkF m pc L S) rfl (hb hby hd) hnn hbig hc hl
    obtain ⟨s₂, o, h1, h2, h3, v, L', h4, ⟨⟨h5, h6⟩, h7⟩, h8⟩ := K h' a (own_keep E) p l e (s.setVm T'.vm) m args below meth c T' locs ⟨hx, hZ', hby, hml, hown', hrt, hlk, hnm⟩ X' e' N
    exact ⟨s₂, o, st _ h1, h2, h3, v, L', h4, ⟨h5, h7⟩, own_ended hS (Nat.le_trans hk1 h6) h8⟩
theorem wGo.callIW {y : MethodName} {i W : Nat} {bytes' : ByteArray} {ml' : Nat} {rm : Room} {as : Array Value} {Q' : Option Value → Heap → Prop} {ps : List FieldType} {rt : Option FieldType} {a : Addr} (argsL rest : List Value) (hd : decode bytes pc = .ok (.invokespecial i, 3)) (hq : pc + 3 = q) (hy1 : y.name = "<init>")
    (w1 : (Cond.methodLink own i y).before a0 Z = true) (w2 : (Cond.instanceMethod y).before a0 Z = true) (w3 : (Cond.initialized y.cls).before a0 Z = true) (w4 : (Cond.code y bytes' ml' none).before a0 Z = true) (hy : y.cls ≠ "java/lang/invoke/MethodHandle" ∧ y.cls ≠ "java/lang/invoke/VarHandle")
    (hC : wCon Z y bytes' ml' none rm as h n0 Q') (hS : S = argsL.reverse ++ .ref a :: rest) (has : (.ref a :: argsL).toArray = as) (hpd : parseMethodDescriptor y.desc = some ⟨ps, rt⟩) (hlen : argsL.length = ps.length) (hL : L.size = ml) (hW : 2 * 0 + (rest.map fun v => v.category).sum ≤ W) (hf : rm.frames + 1 ≤ R.frames) (hl : W + (ml' + 11) + rm.locals ≤ R.locals) (hc : k + rm.cells ≤ R.cells) (hs : n + rm.slots ≤ R.slots)
    (K : ∀ v h', Q' v h' → oGo Z own nm bytes ml ret R n0 (fun v h'' => Q v h'' ∧ h'.size ≤ h''.size) (k + rm.cells) (n + rm.slots) h' q L (v.toList ++ rest)) : wGo Z own nm bytes ml ret R n0 Q k n h pc L S :=
  fun p l e s m args below meth c T locs C X eT N => by
    obtain ⟨hx, hZ, hby, hml, hown, hrt, hlk, hnm⟩ := C
    subst hq
    obtain ⟨v, _, ⟨T', L2, k2, n2⟩, -, X', hSi, -, ⟨Lc, hQ', l', y', z'⟩, st⟩ := X.specialBackS hx (y := y) hy1 hown (mvT hZ w1) (mvT hZ w2) (mvT hZ w4) hy (backOfS (W := W) (Q := fun v h' L => Q' v h' ∧ Fr n0 L) (hC l []) hZ w4 w3 hf hl) (g := mkF m pc L S) rfl (by rw [hml]; exact hL) (Steps.refl _) (a := a) (argsL := argsL) (rest := rest) (lenOf hpd hlen) hS hW (hb hby hd) (fun _ _ => ⟨has, eT, hc, hs⟩)
    dsimp only [Pt.U, Pt.locs, Pt.cells, Pt.slots] at X' l' y' z' st hQ' hSi
    subst l' y' z'
    obtain ⟨s₂, o, h1, h2, h3, v', L', h4, ⟨⟨h5, h6⟩, h7⟩, h8⟩ := K v T'.heap hQ'.1 p l e (s.setVm T'.vm) m args below meth c T' _ ⟨hx, State.Warmed39.trans hZ hSi.1, hby, hml, by rw [show (s.setVm T'.vm).vm = T'.vm from rfl, hSi.1.alike.findClass]; exact hown, hrt, hlk, hnm⟩ X' rfl (Fr.app N hQ'.2)
    exact ⟨s₂, o, st.trans h1, h2, h3, v', L', h4, ⟨h5, h7⟩, own_ended hSi h6 h8⟩
end OwnW
def own_ok (n v : Int32) : Prop := v ≠ 0 ∧ v.toInt ≤ n.toInt ∧ -n.toInt ≤ v.toInt
def own_oks (n : Int32) (vs : List Value) : Prop := ∀ i, i < vs.length → ∃ v : Int32, vs[i]? = some (.int v) ∧ own_ok n v
theorem own_oks.nil (n : Int32) : own_oks n [] := fun i hi => absurd hi (by simp)
theorem own_oks.cons {n v : Int32} {vs : List Value} (hv : own_ok n v) (u : own_oks n vs) : own_oks n (.int v :: vs) := fun i hi => by
  cases i with
  | zero => exact ⟨v, rfl, hv⟩
  | succ i => exact u i (by simpa using hi)
theorem d11_0 : decode prog_11_method_7_code 0 = .ok (.aload_n 1, 1) := by decide +kernel
theorem d11_1 : decode prog_11_method_7_code 1 = .ok (.astore_n 2, 1) := by decide +kernel
theorem d11_2 : decode prog_11_method_7_code 2 = .ok (.aload_n 2, 1) := by decide +kernel
theorem d11_3 : decode prog_11_method_7_code 3 = .ok (.arraylength, 1) := by decide +kernel
theorem d11_4 : decode prog_11_method_7_code 4 = .ok (.istore_n 3, 1) := by decide +kernel
theorem d11_5 : decode prog_11_method_7_code 5 = .ok (.iconst 0, 1) := by decide +kernel
theorem d11_6 : decode prog_11_method_7_code 6 = .ok (.istore 4, 2) := by decide +kernel
theorem d11_8 : decode prog_11_method_7_code 8 = .ok (.iload 4, 2) := by decide +kernel
theorem d11_10 : decode prog_11_method_7_code 10 = .ok (.iload_n 3, 1) := by decide +kernel
theorem d11_11 : decode prog_11_method_7_code 11 = .ok (.if_icmp .ge 49, 3) := by decide +kernel
theorem d11_14 : decode prog_11_method_7_code 14 = .ok (.aload_n 2, 1) := by decide +kernel
theorem d11_15 : decode prog_11_method_7_code 15 = .ok (.iload 4, 2) := by decide +kernel
theorem d11_17 : decode prog_11_method_7_code 17 = .ok (.iaload, 1) := by decide +kernel
theorem d11_18 : decode prog_11_method_7_code 18 = .ok (.istore 5, 2) := by decide +kernel
theorem d11_20 : decode prog_11_method_7_code 20 = .ok (.iload 5, 2) := by decide +kernel
theorem d11_22 : decode prog_11_method_7_code 22 = .ok (.ifCond .eq 16, 3) := by decide +kernel
theorem d11_25 : decode prog_11_method_7_code 25 = .ok (.iload 5, 2) := by decide +kernel
theorem d11_27 : decode prog_11_method_7_code 27 = .ok (.iload_n 0, 1) := by decide +kernel
theorem d11_28 : decode prog_11_method_7_code 28 = .ok (.if_icmp .gt 10, 3) := by decide +kernel
theorem d11_31 : decode prog_11_method_7_code 31 = .ok (.iload 5, 2) := by decide +kernel
theorem d11_33 : decode prog_11_method_7_code 33 = .ok (.iload_n 0, 1) := by decide +kernel
theorem d11_34 : decode prog_11_method_7_code 34 = .ok (.ineg, 1) := by decide +kernel
theorem d11_35 : decode prog_11_method_7_code 35 = .ok (.if_icmp .ge 19, 3) := by decide +kernel
theorem d11_38 : decode prog_11_method_7_code 38 = .ok (.new 87, 3) := by decide +kernel
theorem d11_41 : decode prog_11_method_7_code 41 = .ok (.dup, 1) := by decide +kernel
theorem d11_42 : decode prog_11_method_7_code 42 = .ok (.iload 5, 2) := by decide +kernel
theorem d11_44 : decode prog_11_method_7_code 44 = .ok (.iload_n 0, 1) := by decide +kernel
theorem d11_50 : decode prog_11_method_7_code 50 = .ok (.invokespecial 90, 3) := by decide +kernel
theorem d11_54 : decode prog_11_method_7_code 54 = .ok (.iinc 4 1, 3) := by decide +kernel
theorem d11_57 : decode prog_11_method_7_code 57 = .ok (.goto (-49), 3) := by decide +kernel
theorem d11_60 : decode prog_11_method_7_code 60 = .ok (.return_, 1) := by decide +kernel
theorem own_pd0 : parseMethodDescriptor "(I[I)V" = some ⟨[.int, (.array .int)], none⟩ := by decide +kernel
theorem own_ef11 (m : MethodId) (x0 : Int32) (x1 : Addr) : entryFrame m #[(.int x0), (.ref x1)] 6 = mkF m 0 #[.val (.int x0), .val (.ref x1), .unset, .unset, .unset, .unset] [] := by first | (simp [entryFrame, mkF, argsToLocals, Value.category]; done) | rfl
theorem own_pn11 : plainFor (⟨"com/example/ferret/ferret/engine/Dimacs", "requireDeclared", "(I[I)V"⟩ : MethodName) = true := plainFor_of_name (by first | (simp [plainName, overriddenIn]; done) | decide +kernel)
set_option maxRecDepth 65536 in
set_option maxHeartbeats 40000000 in
theorem crd {Z : State} {a0 : Array Value} (hw : ∀ d ∈ tables_1, d.before a0 Z = true) (n : Int32) (a : Addr) (vs : List Value) (h : Heap) (n0 : Nat) (hn : 0 ≤ n.toInt) (A : Ars Z h a .int vs) (hl : vs.length < 2147483647) (H : own_oks n vs) :
    oCon Z (⟨"com/example/ferret/ferret/engine/Dimacs", "requireDeclared", "(I[I)V"⟩ : MethodName) prog_11_method_7_code 6 none ({ frames := 0, cells := 0, slots := 0, locals := 0 } : Room) #[(.int n), (.ref a)] h n0 (fun v h' => v = none ∧ h' = h) := by
  refine oCon.of own_pn11 (fun m => own_ef11 m n a) ?_
  show oGo Z _ _ _ _ _ _ n0 _ 0 0 h 0 #[.val (.int n), .val (.ref a), .unset, .unset, .unset, .unset] []
  have el := own_oi (i := vs.length) (by omega)
  have en := c_ineg n
  have rn := rng32 n
  have rm := rng32 (-n)
  refine oGo.aloadN (q := 1) d11_0 rfl rfl rfl ?_
  refine oGo.astoreN (q := 2) (L' := #[.val (.int n), .val (.ref a), .val (.ref a), .unset, .unset, .unset]) d11_1 rfl rfl rfl ?_
  refine oGo.aloadN (q := 3) d11_2 rfl rfl rfl ?_
  refine oGo.arraylength (q := 4) (v := (Int32.ofNat vs.length)) d11_3 rfl A rfl ?_
  refine oGo.istoreN (q := 5) (L' := #[.val (.int n), .val (.ref a), .val (.ref a), .val (.int (Int32.ofNat vs.length)), .unset, .unset]) d11_4 rfl rfl ?_
  refine oGo.iconst (q := 6) (v := (0 : Int32)) d11_5 rfl rfl ?_
  refine oGo.istore (q := 8) (L' := #[.val (.int n), .val (.ref a), .val (.ref a), .val (.int (Int32.ofNat vs.length)), .val (.int (0 : Int32)), .unset]) d11_6 rfl rfl ?_
  have loop : ∀ (t i : Nat) (s5 : Slot), i + t = vs.length → (s5 = .unset ∨ ∃ v : Int32, s5 = .val (.int v)) → oGo Z "com/example/ferret/ferret/engine/Dimacs" "requireDeclared" prog_11_method_7_code 6 none ({ frames := 0, cells := 0, slots := 0, locals := 0 } : Room) n0 (fun v h' => v = none ∧ h' = h) 0 0 h 8 #[.val (.int n), .val (.ref a), .val (.ref a), .val (.int (Int32.ofNat vs.length)), .val (.int (Int32.ofNat i)), s5] [] := by
    intro t
    induction t with
    | zero =>
      intro i s5 hi hs
      have ei := own_oi (i := i) (by omega)
      refine oGo.iload (q := 10) d11_8 rfl rfl ?_
      refine oGo.iloadN (q := 11) d11_10 rfl rfl ?_
      refine oGo.icmp_ge (q := 60) (r := 14) d11_11 (by decide) rfl (fun hc => ?_) (fun hc => absurd hc (by omega))
      exact oGo.retV d11_60 rfl (by decide) (by decide) (⟨rfl, rfl⟩)
    | succ t ih =>
      intro i s5 hi hs
      have ei := own_oi (i := i) (by omega)
      obtain ⟨v, hv, hv0, hv1, hv2⟩ := H i (by omega)
      refine oGo.iload (q := 10) d11_8 rfl rfl ?_
      refine oGo.iloadN (q := 11) d11_10 rfl rfl ?_
      refine oGo.icmp_ge (q := 60) (r := 14) d11_11 (by decide) rfl (fun hc => absurd hc (by omega)) (fun hc => ?_)
      refine oGo.aloadN (q := 15) d11_14 rfl rfl rfl ?_
      refine oGo.iload (q := 17) d11_15 rfl rfl ?_
      refine oGo.iaload (q := 18) (i := i) (v := (.int v)) d11_17 rfl A ei hv ?_
      refine oGo.istore (q := 20) (L' := #[.val (.int n), .val (.ref a), .val (.ref a), .val (.int (Int32.ofNat vs.length)), .val (.int (Int32.ofNat i)), .val (.int v)]) d11_18 rfl (by rcases hs with rfl | ⟨u, rfl⟩ <;> rfl) ?_
      refine oGo.iload (q := 22) d11_20 rfl rfl ?_
      refine oGo.if_eq (q := 38) (r := 25) d11_22 (by decide) rfl (fun hc1 => absurd hc1 hv0) (fun hc1 => ?_)
      refine oGo.iload (q := 27) d11_25 rfl rfl ?_
      refine oGo.iloadN (q := 28) d11_27 rfl rfl ?_
      refine oGo.icmp_gt (q := 38) (r := 31) d11_28 (by decide) rfl (fun hc2 => absurd hc2 (by omega)) (fun hc2 => ?_)
      refine oGo.iload (q := 33) d11_31 rfl rfl ?_
      refine oGo.iloadN (q := 34) d11_33 rfl rfl ?_
      refine oGo.ineg (q := 35) d11_34 rfl ?_
      refine oGo.icmp_ge (q := 54) (r := 38) d11_35 (by decide) rfl (fun hc3 => ?_) (fun hc3 => absurd hc3 (by omega))
      refine oGo.iinc (q := 57) (v := (Int32.ofNat (i + 1))) (L' := #[.val (.int n), .val (.ref a), .val (.ref a), .val (.int (Int32.ofNat vs.length)), .val (.int (Int32.ofNat (i + 1))), .val (.int v)]) d11_54 rfl rfl (own_oinc i) rfl ?_
      refine oGo.goto (q := 8) d11_57 (by decide) ?_
      exact ih (i + 1) _ (by omega) (Or.inr ⟨v, rfl⟩)
  exact loop vs.length 0 _ (by omega) (Or.inl rfl)
theorem d7_0 : decode prog_11_method_1_code 0 = .ok (.aload_n 0, 1) := by decide +kernel
theorem d7_1 : decode prog_11_method_1_code 1 = .ok (.invokespecial 3, 3) := by decide +kernel
theorem d7_4 : decode prog_11_method_1_code 4 = .ok (.aload_n 0, 1) := by decide +kernel
theorem d7_5 : decode prog_11_method_1_code 5 = .ok (.sipush 1024, 3) := by decide +kernel
theorem d7_8 : decode prog_11_method_1_code 8 = .ok (.newarray .int, 2) := by decide +kernel
theorem d7_10 : decode prog_11_method_1_code 10 = .ok (.putfield 9, 3) := by decide +kernel
theorem d7_13 : decode prog_11_method_1_code 13 = .ok (.return_, 1) := by decide +kernel
theorem own_pd1 : parseMethodDescriptor "()V" = some ⟨[], none⟩ := by decide +kernel
theorem d13_0 : decode prog_11_method_2_code 0 = .ok (.aload_n 0, 1) := by decide +kernel
theorem d13_1 : decode prog_11_method_2_code 1 = .ok (.dup, 1) := by decide +kernel
theorem d13_2 : decode prog_11_method_2_code 2 = .ok (.getfield 15, 3) := by decide +kernel
theorem d13_5 : decode prog_11_method_2_code 5 = .ok (.iconst 1, 1) := by decide +kernel
theorem d13_6 : decode prog_11_method_2_code 6 = .ok (.iadd, 1) := by decide +kernel
theorem d13_7 : decode prog_11_method_2_code 7 = .ok (.putfield 15, 3) := by decide +kernel
theorem d13_10 : decode prog_11_method_2_code 10 = .ok (.aload_n 0, 1) := by decide +kernel
theorem d13_11 : decode prog_11_method_2_code 11 = .ok (.getfield 15, 3) := by decide +kernel
theorem d13_14 : decode prog_11_method_2_code 14 = .ok (.ireturn, 1) := by decide +kernel
theorem own_pd2 : parseMethodDescriptor "()I" = some ⟨[], some .int⟩ := by decide +kernel
theorem d10_0 : decode prog_11_method_3_code 0 = .ok (.aload_n 0, 1) := by decide +kernel
theorem d10_1 : decode prog_11_method_3_code 1 = .ok (.getfield 15, 3) := by decide +kernel
theorem d10_4 : decode prog_11_method_3_code 4 = .ok (.aload_n 1, 1) := by decide +kernel
theorem d10_5 : decode prog_11_method_3_code 5 = .ok (.invokestatic 19, 3) := by decide +kernel
theorem d10_8 : decode prog_11_method_3_code 8 = .ok (.aload_n 0, 1) := by decide +kernel
theorem d10_9 : decode prog_11_method_3_code 9 = .ok (.getfield 23, 3) := by decide +kernel
theorem d10_12 : decode prog_11_method_3_code 12 = .ok (.i2l, 1) := by decide +kernel
theorem d10_13 : decode prog_11_method_3_code 13 = .ok (.aload_n 1, 1) := by decide +kernel
theorem d10_14 : decode prog_11_method_3_code 14 = .ok (.arraylength, 1) := by decide +kernel
theorem d10_15 : decode prog_11_method_3_code 15 = .ok (.i2l, 1) := by decide +kernel
theorem d10_16 : decode prog_11_method_3_code 16 = .ok (.ladd, 1) := by decide +kernel
theorem d10_17 : decode prog_11_method_3_code 17 = .ok (.lconst 1, 1) := by decide +kernel
theorem d10_18 : decode prog_11_method_3_code 18 = .ok (.ladd, 1) := by decide +kernel
theorem d10_19 : decode prog_11_method_3_code 19 = .ok (.lstore_n 2, 1) := by decide +kernel
theorem d10_20 : decode prog_11_method_3_code 20 = .ok (.lload_n 2, 1) := by decide +kernel
theorem d10_21 : decode prog_11_method_3_code 21 = .ok (.ldc2_w 26, 3) := by decide +kernel
theorem d10_24 : decode prog_11_method_3_code 24 = .ok (.lcmp, 1) := by decide +kernel
theorem d10_25 : decode prog_11_method_3_code 25 = .ok (.ifCond .le 13, 3) := by decide +kernel
theorem d10_28 : decode prog_11_method_3_code 28 = .ok (.new 28, 3) := by decide +kernel
theorem d10_31 : decode prog_11_method_3_code 31 = .ok (.dup, 1) := by decide +kernel
theorem d10_32 : decode prog_11_method_3_code 32 = .ok (.ldc 30, 2) := by decide +kernel
theorem d10_34 : decode prog_11_method_3_code 34 = .ok (.invokespecial 32, 3) := by decide +kernel
theorem d10_38 : decode prog_11_method_3_code 38 = .ok (.lload_n 2, 1) := by decide +kernel
theorem d10_39 : decode prog_11_method_3_code 39 = .ok (.aload_n 0, 1) := by decide +kernel
theorem d10_40 : decode prog_11_method_3_code 40 = .ok (.getfield 9, 3) := by decide +kernel
theorem d10_43 : decode prog_11_method_3_code 43 = .ok (.arraylength, 1) := by decide +kernel
theorem d10_44 : decode prog_11_method_3_code 44 = .ok (.i2l, 1) := by decide +kernel
theorem d10_45 : decode prog_11_method_3_code 45 = .ok (.lcmp, 1) := by decide +kernel
theorem d10_46 : decode prog_11_method_3_code 46 = .ok (.ifCond .le 39, 3) := by decide +kernel
theorem d10_49 : decode prog_11_method_3_code 49 = .ok (.ldc2_w 35, 3) := by decide +kernel
theorem d10_52 : decode prog_11_method_3_code 52 = .ok (.aload_n 0, 1) := by decide +kernel
theorem d10_53 : decode prog_11_method_3_code 53 = .ok (.getfield 9, 3) := by decide +kernel
theorem d10_56 : decode prog_11_method_3_code 56 = .ok (.arraylength, 1) := by decide +kernel
theorem d10_57 : decode prog_11_method_3_code 57 = .ok (.i2l, 1) := by decide +kernel
theorem d10_58 : decode prog_11_method_3_code 58 = .ok (.lmul, 1) := by decide +kernel
theorem d10_59 : decode prog_11_method_3_code 59 = .ok (.lload_n 2, 1) := by decide +kernel
theorem d10_60 : decode prog_11_method_3_code 60 = .ok (.invokestatic 37, 3) := by decide +kernel
theorem d10_63 : decode prog_11_method_3_code 63 = .ok (.lstore 4, 2) := by decide +kernel
theorem d10_65 : decode prog_11_method_3_code 65 = .ok (.aload_n 0, 1) := by decide +kernel
theorem d10_66 : decode prog_11_method_3_code 66 = .ok (.aload_n 0, 1) := by decide +kernel
theorem d10_67 : decode prog_11_method_3_code 67 = .ok (.getfield 9, 3) := by decide +kernel
theorem d10_70 : decode prog_11_method_3_code 70 = .ok (.lload 4, 2) := by decide +kernel
theorem d10_72 : decode prog_11_method_3_code 72 = .ok (.ldc2_w 26, 3) := by decide +kernel
theorem d10_75 : decode prog_11_method_3_code 75 = .ok (.invokestatic 43, 3) := by decide +kernel
theorem d10_78 : decode prog_11_method_3_code 78 = .ok (.l2i, 1) := by decide +kernel
theorem d10_79 : decode prog_11_method_3_code 79 = .ok (.invokestatic 46, 3) := by decide +kernel
theorem d10_82 : decode prog_11_method_3_code 82 = .ok (.putfield 9, 3) := by decide +kernel
theorem d10_85 : decode prog_11_method_3_code 85 = .ok (.aload_n 1, 1) := by decide +kernel
theorem d10_86 : decode prog_11_method_3_code 86 = .ok (.iconst 0, 1) := by decide +kernel
theorem d10_87 : decode prog_11_method_3_code 87 = .ok (.aload_n 0, 1) := by decide +kernel
theorem d10_88 : decode prog_11_method_3_code 88 = .ok (.getfield 9, 3) := by decide +kernel
theorem d10_91 : decode prog_11_method_3_code 91 = .ok (.aload_n 0, 1) := by decide +kernel
theorem d10_92 : decode prog_11_method_3_code 92 = .ok (.getfield 23, 3) := by decide +kernel
theorem d10_95 : decode prog_11_method_3_code 95 = .ok (.aload_n 1, 1) := by decide +kernel
theorem d10_96 : decode prog_11_method_3_code 96 = .ok (.arraylength, 1) := by decide +kernel
theorem d10_97 : decode prog_11_method_3_code 97 = .ok (.invokestatic 52, 3) := by decide +kernel
theorem d10_100 : decode prog_11_method_3_code 100 = .ok (.aload_n 0, 1) := by decide +kernel
theorem d10_101 : decode prog_11_method_3_code 101 = .ok (.dup, 1) := by decide +kernel
theorem d10_102 : decode prog_11_method_3_code 102 = .ok (.getfield 23, 3) := by decide +kernel
theorem d10_105 : decode prog_11_method_3_code 105 = .ok (.aload_n 1, 1) := by decide +kernel
theorem d10_106 : decode prog_11_method_3_code 106 = .ok (.arraylength, 1) := by decide +kernel
theorem d10_107 : decode prog_11_method_3_code 107 = .ok (.iconst 1, 1) := by decide +kernel
theorem d10_108 : decode prog_11_method_3_code 108 = .ok (.iadd, 1) := by decide +kernel
theorem d10_109 : decode prog_11_method_3_code 109 = .ok (.iadd, 1) := by decide +kernel
theorem d10_110 : decode prog_11_method_3_code 110 = .ok (.putfield 23, 3) := by decide +kernel
theorem d10_113 : decode prog_11_method_3_code 113 = .ok (.aload_n 0, 1) := by decide +kernel
theorem d10_114 : decode prog_11_method_3_code 114 = .ok (.getfield 9, 3) := by decide +kernel
theorem d10_117 : decode prog_11_method_3_code 117 = .ok (.aload_n 0, 1) := by decide +kernel
theorem d10_118 : decode prog_11_method_3_code 118 = .ok (.getfield 23, 3) := by decide +kernel
theorem d10_121 : decode prog_11_method_3_code 121 = .ok (.iconst 1, 1) := by decide +kernel
theorem d10_122 : decode prog_11_method_3_code 122 = .ok (.isub, 1) := by decide +kernel
theorem d10_123 : decode prog_11_method_3_code 123 = .ok (.iconst 0, 1) := by decide +kernel
theorem d10_124 : decode prog_11_method_3_code 124 = .ok (.iastore, 1) := by decide +kernel
theorem d10_125 : decode prog_11_method_3_code 125 = .ok (.aload_n 0, 1) := by decide +kernel
theorem d10_126 : decode prog_11_method_3_code 126 = .ok (.dup, 1) := by decide +kernel
theorem d10_127 : decode prog_11_method_3_code 127 = .ok (.getfield 58, 3) := by decide +kernel
theorem d10_130 : decode prog_11_method_3_code 130 = .ok (.iconst 1, 1) := by decide +kernel
theorem d10_131 : decode prog_11_method_3_code 131 = .ok (.iadd, 1) := by decide +kernel
theorem d10_132 : decode prog_11_method_3_code 132 = .ok (.putfield 58, 3) := by decide +kernel
theorem d10_135 : decode prog_11_method_3_code 135 = .ok (.return_, 1) := by decide +kernel
theorem own_pd3 : parseMethodDescriptor "([I)V" = some ⟨[(.array .int)], none⟩ := by decide +kernel
def own_dm (Z : State) (h : Heap) (a : Addr) (v0 v1 v2 v3 : Value) : Prop := Exa Z h a "com/example/ferret/ferret/engine/Dimacs" ∧ Fld Z h a "com/example/ferret/ferret/engine/Dimacs" "literals" "[I" v0 ∧ Fld Z h a "com/example/ferret/ferret/engine/Dimacs" "literalSlots" "I" v1 ∧ Fld Z h a "com/example/ferret/ferret/engine/Dimacs" "clauseCount" "I" v2 ∧ Fld Z h a "com/example/ferret/ferret/engine/Dimacs" "variableCount" "I" v3
theorem own_dm.lt {Z : State} {h : Heap} {a : Addr} {v0 v1 v2 v3 : Value} (O : own_dm Z h a v0 v1 v2 v3) : a < h.size := O.1.lt
theorem own_dm.keep {Z : State} {h h' : Heap} {ws : List Addr} {a : Addr} {v0 v1 v2 v3 : Value} (O : own_dm Z h a v0 v1 v2 v3) (K : Keep h h' ws) (q : a ∉ ws) : own_dm Z h' a v0 v1 v2 v3 := by
  obtain ⟨E, F0, F1, F2, F3⟩ := O; exact ⟨E.keep K, F0.keep K q, F1.keep K q, F2.keep K q, F3.keep K q⟩
def own_st (Z : State) (h : Heap) (n0 : Nat) (d a : Addr) (s : Nat) (c v : Int32) : Prop := own_dm Z h d (.ref a) (.int (Int32.ofNat s)) (.int c) (.int v) ∧ (∃ vs, Ars Z h a .int vs ∧ vs.length = 1024) ∧ n0 ≤ d ∧ n0 ≤ a ∧ a ≠ d
theorem own_st.keep {Z : State} {h h' : Heap} {n0 : Nat} {d a : Addr} {s : Nat} {c v : Int32} {ws : List Addr} (O : own_st Z h n0 d a s c v) (K : Keep h h' ws) (q1 : d ∉ ws) (q2 : a ∉ ws) : own_st Z h' n0 d a s c v := by
  obtain ⟨O, ⟨vs, A, hv⟩, r⟩ := O
  exact ⟨O.keep K q1, ⟨vs, A.keep K q2, hv⟩, r⟩
theorem own_st.lt {Z : State} {h : Heap} {n0 : Nat} {d a : Addr} {s : Nat} {c v : Int32} (O : own_st Z h n0 d a s c v) : d < h.size ∧ a < h.size := by
  obtain ⟨O, ⟨vs, A, hv⟩, r⟩ := O
  exact ⟨O.lt, A.lt⟩
theorem own_ef7 (m : MethodId) (x0 : Addr) : entryFrame m #[(.ref x0)] 1 = mkF m 0 #[.val (.ref x0)] [] := by first | (simp [entryFrame, mkF, argsToLocals, Value.category]; done) | rfl
theorem own_pn7 : plainFor (⟨"com/example/ferret/ferret/engine/Dimacs", "<init>", "()V"⟩ : MethodName) = true := plainFor_of_name (by first | (simp [plainName, overriddenIn]; done) | decide +kernel)
set_option maxRecDepth 65536 in
set_option maxHeartbeats 40000000 in
theorem cdi {Z : State} {a0 : Array Value} (hw : ∀ d ∈ tables_1, d.before a0 Z = true) (d : Addr) (h : Heap) (n0 : Nat) (Z0 : n0 ≤ h.size) (gd : n0 ≤ d) (O : own_dm Z h d .null (.int 0) (.int 0) (.int 0)) :
    oCon Z (⟨"com/example/ferret/ferret/engine/Dimacs", "<init>", "()V"⟩ : MethodName) prog_11_method_1_code 1 none ({ frames := 1, cells := 1, slots := 1024, locals := 14 } : Room) #[(.ref d)] h n0 (fun v h' => v = none ∧ Keep h h' [d] ∧ ∃ a, h.size ≤ a ∧ own_st Z h' n0 d a 0 0 0) := by
  refine oCon.of own_pn7 (fun m => own_ef7 m d) ?_
  show oGo Z _ _ _ _ _ _ n0 _ 0 0 h 0 #[.val (.ref d)] []
  obtain ⟨E1, F1_literals, F1_literalSlots, F1_clauseCount, F1_variableCount⟩ := O
  refine oGo.aloadN (q := 1) d7_0 rfl rfl rfl ?_
  refine oGo.initO (W := 0) (q := 4) d7_1 rfl (hw _ (List.mem_of_getElem? (i := 39) rfl)) (hw _ (List.mem_of_getElem? (i := 23) rfl)) (hw _ (List.mem_of_getElem? (i := 24) rfl)) rfl (by decide) (Nat.le_of_eq rfl) (by decide) ?_
  refine oGo.aloadN (q := 5) d7_4 rfl rfl rfl ?_
  refine oGo.sipush (q := 8) (v := (1024 : Int32)) d7_5 rfl rfl ?_
  refine oGo.newP (q := 10) (len := 1024) 1024 d7_8 rfl (hw _ (List.mem_of_getElem? (i := 40) rfl)) (by decide) (by first | decide | omega) (by decide) (by decide) (by decide) (ad := "[I") rfl ?_
  intro h2 a g2 K2 A2 E2
  have ne_d_a : d ≠ a := Nat.ne_of_lt (Nat.lt_of_lt_of_eq (E1.lt) g2.symm)
  have ge_a : n0 ≤ a := Nat.le_trans Z0 (Nat.le_of_eq g2.symm)
  have E1_ := Exa.keep E1 K2
  have F1_literals_ := Fld.keep F1_literals K2 nin0
  have F1_literalSlots_ := Fld.keep F1_literalSlots K2 nin0
  have F1_clauseCount_ := Fld.keep F1_clauseCount K2 nin0
  have F1_variableCount_ := Fld.keep F1_variableCount K2 nin0
  have Z0_ := Nat.le_trans Z0 K2.1
  show oGo Z _ _ _ _ _ _ n0 _ 1 1024 h2 10 #[.val (.ref d)] [(.ref a), (.ref d)]
  refine oGo.putF (host := "") (ty := (.array .int)) (q := 13) d7_10 rfl (Or.inl (hw _ (List.mem_of_getElem? (i := 41) rfl))) Via.refl F1_literals_ E1_ (Or.inl (hw _ (List.mem_of_getElem? (i := 42) rfl))) (hw _ (List.mem_of_getElem? (i := 34) rfl)) (by decide) rfl rfl gd ?_
  intro h3 K3 E3 F3 G3
  have F3_literalSlots := G3 (slot_ne (Or.inl (hw _ (List.mem_of_getElem? (i := 71) rfl))) (Or.inl (hw _ (List.mem_of_getElem? (i := 42) rfl))) (by decide) (t := .int) (t' := (.array .int)) (by decide) (by decide)) F1_literalSlots_
  have F3_clauseCount := G3 (slot_ne (Or.inl (hw _ (List.mem_of_getElem? (i := 78) rfl))) (Or.inl (hw _ (List.mem_of_getElem? (i := 42) rfl))) (by decide) (t := .int) (t' := (.array .int)) (by decide) (by decide)) F1_clauseCount_
  have F3_variableCount := G3 (slot_ne (Or.inl (hw _ (List.mem_of_getElem? (i := 66) rfl))) (Or.inl (hw _ (List.mem_of_getElem? (i := 42) rfl))) (by decide) (t := .int) (t' := (.array .int)) (by decide) (by decide)) F1_variableCount_
  have A2_ := Ars.keep A2 K3 (ninS (Ne.symm ne_d_a) nin0)
  have E2_ := Exa.keep E2 K3
  have Z0__ := Nat.le_trans Z0_ K3.1
  show oGo Z _ _ _ _ _ _ n0 _ 1 1024 h3 13 #[.val (.ref d)] []
  exact oGo.retV d7_13 rfl (by decide) (by decide) (⟨rfl, Keep.trans ((Keep.refl h [d]).trans K2 (fun x hx => nomatch hx)) K3 (fun x hx => Or.inl hx), a, Nat.le_of_eq g2.symm, ⟨E3, F3, F3_literalSlots, F3_clauseCount, F3_variableCount⟩, ⟨_, A2_, List.length_replicate⟩, gd, ge_a, (Ne.symm ne_d_a)⟩)
theorem own_ef13 (m : MethodId) (x0 : Addr) : entryFrame m #[(.ref x0)] 1 = mkF m 0 #[.val (.ref x0)] [] := by first | (simp [entryFrame, mkF, argsToLocals, Value.category]; done) | rfl
theorem own_pn13 : plainFor (⟨"com/example/ferret/ferret/engine/Dimacs", "newVariable", "()I"⟩ : MethodName) = true := plainFor_of_name (by first | (simp [plainName, overriddenIn]; done) | decide +kernel)
set_option maxRecDepth 65536 in
set_option maxHeartbeats 40000000 in
theorem cnv {Z : State} {a0 : Array Value} (hw : ∀ d ∈ tables_1, d.before a0 Z = true) (d a : Addr) (s : Nat) (c v v' : Int32) (h : Heap) (n0 : Nat) (O : own_st Z h n0 d a s c v) (hv' : v + (1 : Int32) = v') :
    oCon Z (⟨"com/example/ferret/ferret/engine/Dimacs", "newVariable", "()I"⟩ : MethodName) prog_11_method_2_code 1 (some .int) ({ frames := 0, cells := 0, slots := 0, locals := 0 } : Room) #[(.ref d)] h n0 (fun r h' => r = some (.int v') ∧ Keep h h' [d] ∧ own_st Z h' n0 d a s c v') := by
  refine oCon.of own_pn13 (fun m => own_ef13 m d) ?_
  show oGo Z _ _ _ _ _ _ n0 _ 0 0 h 0 #[.val (.ref d)] []
  subst hv'
  obtain ⟨O, ⟨vs, A, hvl⟩, gd, ga, hne⟩ := O
  obtain ⟨E4, F4_literals, F4_literalSlots, F4_clauseCount, F4_variableCount⟩ := O
  refine oGo.aloadN (q := 1) d13_0 rfl rfl rfl ?_
  refine oGo.dup (q := 2) d13_1 rfl rfl ?_
  refine oGo.getF (host := "") (q := 5) (v := (.int v)) d13_2 rfl (Or.inl (hw _ (List.mem_of_getElem? (i := 65) rfl))) Via.refl F4_variableCount ?_
  refine oGo.iconst (q := 6) (v := (1 : Int32)) d13_5 rfl rfl ?_
  refine oGo.iadd (q := 7) d13_6 rfl ?_
  refine oGo.putF (host := "") (ty := .int) (q := 10) d13_7 rfl (Or.inl (hw _ (List.mem_of_getElem? (i := 65) rfl))) Via.refl F4_variableCount E4 (Or.inl (hw _ (List.mem_of_getElem? (i := 66) rfl))) (hw _ (List.mem_of_getElem? (i := 34) rfl)) (by decide) rfl rfl gd ?_
  intro h5 K5 E5 F5 G5
  have F5_literals := G5 (slot_ne (Or.inl (hw _ (List.mem_of_getElem? (i := 42) rfl))) (Or.inl (hw _ (List.mem_of_getElem? (i := 66) rfl))) (by decide) (t := (.array .int)) (t' := .int) (by decide) (by decide)) F4_literals
  have F5_literalSlots := G5 (slot_ne (Or.inl (hw _ (List.mem_of_getElem? (i := 71) rfl))) (Or.inl (hw _ (List.mem_of_getElem? (i := 66) rfl))) (by decide) (t := .int) (t' := .int) (by decide) (by decide)) F4_literalSlots
  have F5_clauseCount := G5 (slot_ne (Or.inl (hw _ (List.mem_of_getElem? (i := 78) rfl))) (Or.inl (hw _ (List.mem_of_getElem? (i := 66) rfl))) (by decide) (t := .int) (t' := .int) (by decide) (by decide)) F4_clauseCount
  have A_ := Ars.keep A K5 (ninS hne nin0)
  show oGo Z _ _ _ _ _ _ n0 _ 0 0 h5 10 #[.val (.ref d)] []
  refine oGo.aloadN (q := 11) d13_10 rfl rfl rfl ?_
  refine oGo.getF (host := "") (q := 14) (v := (.int (v + (1 : Int32)))) d13_11 rfl (Or.inl (hw _ (List.mem_of_getElem? (i := 65) rfl))) Via.refl F5 ?_
  exact oGo.retI d13_14 rfl (by decide) (by decide) (⟨rfl, K5, ⟨E5, F5_literals, F5_literalSlots, F5_clauseCount, F5⟩, ⟨vs, A_, hvl⟩, gd, ga, hne⟩)
theorem own_ef10 (m : MethodId) (x0 : Addr) (x1 : Addr) : entryFrame m #[(.ref x0), (.ref x1)] 6 = mkF m 0 #[.val (.ref x0), .val (.ref x1), .unset, .unset, .unset, .unset] [] := by first | (simp [entryFrame, mkF, argsToLocals, Value.category]; done) | rfl
theorem own_pn10 : plainFor (⟨"com/example/ferret/ferret/engine/Dimacs", "addClause", "([I)V"⟩ : MethodName) = true := plainFor_of_name (by first | (simp [plainName, overriddenIn]; done) | decide +kernel)
set_option maxRecDepth 65536 in
set_option maxHeartbeats 40000000 in
theorem cac {Z : State} {a0 : Array Value} (hw : ∀ d ∈ tables_1, d.before a0 Z = true) (d e a : Addr) (s s' : Nat) (c v : Int32) (ls : List Value) (h : Heap) (n0 : Nat) (O : own_st Z h n0 d a s c v) (B : Ars Z h e .int ls) (hed : e ≠ d) (hea : e ≠ a) (hv : 0 ≤ v.toInt) (H : own_oks v ls) (hs : s + (ls.length + 1) ≤ 1024) (hs' : s + (ls.length + 1) = s') :
    oCon Z (⟨"com/example/ferret/ferret/engine/Dimacs", "addClause", "([I)V"⟩ : MethodName) prog_11_method_3_code 6 none ({ frames := 1, cells := 0, slots := 0, locals := 60 } : Room) #[(.ref d), (.ref e)] h n0 (fun r h' => r = none ∧ Keep h h' [d, a] ∧ own_st Z h' n0 d a s' (c + (1 : Int32)) v) := by
  refine oCon.of own_pn10 (fun m => own_ef10 m d e) ?_
  show oGo Z _ _ _ _ _ _ n0 _ 0 0 h 0 #[.val (.ref d), .val (.ref e), .unset, .unset, .unset, .unset] []
  subst hs'
  obtain ⟨O, ⟨vs, A, hvl⟩, gd, ga, hne⟩ := O
  obtain ⟨E6, F6_literals, F6_literalSlots, F6_clauseCount, F6_variableCount⟩ := O
  have el := own_oi (i := ls.length) (by omega)
  have es := own_oi (i := s) (by omega)
  have ev := own_oi (i := 1024) (by decide)
  have z1 : (1 : Int64).toInt = 1 := by decide
  have zm : (2147483639 : Int64).toInt = 2147483639 := by decide
  have u1 := c_i2l (Int32.ofNat s)
  have u2 := c_i2l (Int32.ofNat ls.length)
  have u3 := c_i2l (Int32.ofNat 1024)
  have b1 := c_ladd (Int32.ofNat s).toInt64 (Int32.ofNat ls.length).toInt64
  have b2 := c_ladd ((Int32.ofNat s).toInt64 + (Int32.ofNat ls.length).toInt64) 1
  have r1 := rng64 ((Int32.ofNat s).toInt64 + (Int32.ofNat ls.length).toInt64)
  have r2 := rng64 (((Int32.ofNat s).toInt64 + (Int32.ofNat ls.length).toInt64) + 1)
  refine oGo.aloadN (q := 1) d10_0 rfl rfl rfl ?_
  refine oGo.getF (host := "") (q := 4) (v := (.int v)) d10_1 rfl (Or.inl (hw _ (List.mem_of_getElem? (i := 65) rfl))) Via.refl F6_variableCount ?_
  refine oGo.aloadN (q := 5) d10_4 rfl rfl rfl ?_
  refine oGo.callS (W := 0) (rm := ({ frames := 0, cells := 0, slots := 0, locals := 0 } : Room)) (q := 8) [(.int v), (.ref e)] [] d10_5 rfl (hw _ (List.mem_of_getElem? (i := 67) rfl)) (hw _ (List.mem_of_getElem? (i := 68) rfl)) (hw _ (List.mem_of_getElem? (i := 35) rfl)) (hw _ (List.mem_of_getElem? (i := 69) rfl)) (by decide) (crd hw v e ls h n0 hv B (by omega) H) rfl rfl own_pd0 rfl rfl (Nat.le_of_eq rfl) (by decide) (by decide) (by decide) (by decide) ?_
  rintro _ h7 ⟨rfl, eh⟩
  all_goals subst h7
  show oGo Z _ _ _ _ _ _ n0 _ 0 0 h 8 #[.val (.ref d), .val (.ref e), .unset, .unset, .unset, .unset] []
  refine oGo.aloadN (q := 9) d10_8 rfl rfl rfl ?_
  refine oGo.getF (host := "") (q := 12) (v := (.int (Int32.ofNat s))) d10_9 rfl (Or.inl (hw _ (List.mem_of_getElem? (i := 70) rfl))) Via.refl F6_literalSlots ?_
  refine oGo.i2l (q := 13) d10_12 rfl ?_
  refine oGo.aloadN (q := 14) d10_13 rfl rfl rfl ?_
  refine oGo.arraylength (q := 15) (v := (Int32.ofNat ls.length)) d10_14 rfl B rfl ?_
  refine oGo.i2l (q := 16) d10_15 rfl ?_
  refine oGo.ladd (q := 17) d10_16 rfl ?_
  refine oGo.lconst (q := 18) (v := (1 : Int64)) d10_17 rfl rfl ?_
  refine oGo.ladd (q := 19) d10_18 rfl ?_
  refine oGo.lstoreN (q := 20) (L' := #[.val (.ref d), .val (.ref e), .val (.long (((Int32.ofNat s).toInt64 + (Int32.ofNat ls.length).toInt64) + (1 : Int64))), .second, .unset, .unset]) d10_19 rfl rfl ?_
  refine oGo.lloadN (q := 21) d10_20 rfl rfl ?_
  refine oGo.ldc2 (q := 24) (v := (2147483639 : Int64)) d10_21 rfl (hw _ (List.mem_of_getElem? (i := 72) rfl)) ?_
  refine oGo.lif_le (pc2 := 25) (q := 38) (r := 28) d10_24 rfl d10_25 (by decide) rfl (fun hc => ?_) (fun hc => absurd hc (by omega))
  refine oGo.lloadN (q := 39) d10_38 rfl rfl ?_
  refine oGo.aloadN (q := 40) d10_39 rfl rfl rfl ?_
  refine oGo.getF (host := "") (q := 43) (v := (.ref a)) d10_40 rfl (Or.inl (hw _ (List.mem_of_getElem? (i := 41) rfl))) Via.refl F6_literals ?_
  refine oGo.arraylength (q := 44) (v := (Int32.ofNat 1024)) d10_43 rfl A (by rw [hvl]) ?_
  refine oGo.i2l (q := 45) d10_44 rfl ?_
  refine oGo.lif_le (pc2 := 46) (q := 85) (r := 49) d10_45 rfl d10_46 (by decide) rfl (fun hc => ?_) (fun hc => absurd hc (by omega))
  refine oGo.aloadN (q := 86) d10_85 rfl rfl rfl ?_
  refine oGo.iconst (q := 87) (v := (0 : Int32)) d10_86 rfl rfl ?_
  refine oGo.aloadN (q := 88) d10_87 rfl rfl rfl ?_
  refine oGo.getF (host := "") (q := 91) (v := (.ref a)) d10_88 rfl (Or.inl (hw _ (List.mem_of_getElem? (i := 41) rfl))) Via.refl F6_literals ?_
  refine oGo.aloadN (q := 92) d10_91 rfl rfl rfl ?_
  refine oGo.getF (host := "") (q := 95) (v := (.int (Int32.ofNat s))) d10_92 rfl (Or.inl (hw _ (List.mem_of_getElem? (i := 70) rfl))) Via.refl F6_literalSlots ?_
  refine oGo.aloadN (q := 96) d10_95 rfl rfl rfl ?_
  refine oGo.arraylength (q := 97) (v := (Int32.ofNat ls.length)) d10_96 rfl B rfl ?_
  refine oGo.acopy (q := 100) (W := 0) (si := 0) (di := s) (len := ls.length) d10_97 rfl (hw _ (List.mem_of_getElem? (i := 73) rfl)) (hw _ (List.mem_of_getElem? (i := 76) rfl)) (hw _ (List.mem_of_getElem? (i := 74) rfl)) (hw _ (List.mem_of_getElem? (i := 75) rfl)) B A rfl rfl es el (by omega) (by omega) (by omega) (by omega) ga rfl (by decide) (Nat.le_of_eq rfl) (by decide) ?_
  intro h8 K8 A8
  have E6_ := Exa.keep E6 K8
  have F6_literals_ := Fld.keep F6_literals K8 (ninS (Ne.symm hne) nin0)
  have F6_literalSlots_ := Fld.keep F6_literalSlots K8 (ninS (Ne.symm hne) nin0)
  have F6_clauseCount_ := Fld.keep F6_clauseCount K8 (ninS (Ne.symm hne) nin0)
  have F6_variableCount_ := Fld.keep F6_variableCount K8 (ninS (Ne.symm hne) nin0)
  have B_ := Ars.keep B K8 (ninS hea nin0)
  show oGo Z _ _ _ _ _ _ n0 _ 0 0 h8 100 #[.val (.ref d), .val (.ref e), .val (.long (((Int32.ofNat s).toInt64 + (Int32.ofNat ls.length).toInt64) + (1 : Int64))), .second, .unset, .unset] []
  refine oGo.aloadN (q := 101) d10_100 rfl rfl rfl ?_
  refine oGo.dup (q := 102) d10_101 rfl rfl ?_
  refine oGo.getF (host := "") (q := 105) (v := (.int (Int32.ofNat s))) d10_102 rfl (Or.inl (hw _ (List.mem_of_getElem? (i := 70) rfl))) Via.refl F6_literalSlots_ ?_
  refine oGo.aloadN (q := 106) d10_105 rfl rfl rfl ?_
  refine oGo.arraylength (q := 107) (v := (Int32.ofNat ls.length)) d10_106 rfl B_ rfl ?_
  refine oGo.iconst (q := 108) (v := (1 : Int32)) d10_107 rfl rfl ?_
  refine oGo.iadd (q := 109) d10_108 rfl ?_
  refine oGo.iadd (q := 110) d10_109 rfl ?_
  rw [own_oadd (i := ls.length) (c := (1 : Int32)) (m := 1) rfl, own_oadd (i := s) (m := ls.length + 1) rfl]
  refine oGo.putF (host := "") (ty := .int) (q := 113) d10_110 rfl (Or.inl (hw _ (List.mem_of_getElem? (i := 70) rfl))) Via.refl F6_literalSlots_ E6_ (Or.inl (hw _ (List.mem_of_getElem? (i := 71) rfl))) (hw _ (List.mem_of_getElem? (i := 34) rfl)) (by decide) rfl rfl gd ?_
  intro h9 K9 E9 F9 G9
  have F9_literals := G9 (slot_ne (Or.inl (hw _ (List.mem_of_getElem? (i := 42) rfl))) (Or.inl (hw _ (List.mem_of_getElem? (i := 71) rfl))) (by decide) (t := (.array .int)) (t' := .int) (by decide) (by decide)) F6_literals_
  have F9_clauseCount := G9 (slot_ne (Or.inl (hw _ (List.mem_of_getElem? (i := 78) rfl))) (Or.inl (hw _ (List.mem_of_getElem? (i := 71) rfl))) (by decide) (t := .int) (t' := .int) (by decide) (by decide)) F6_clauseCount_
  have F9_variableCount := G9 (slot_ne (Or.inl (hw _ (List.mem_of_getElem? (i := 66) rfl))) (Or.inl (hw _ (List.mem_of_getElem? (i := 71) rfl))) (by decide) (t := .int) (t' := .int) (by decide) (by decide)) F6_variableCount_
  have B__ := Ars.keep B_ K9 (ninS hed nin0)
  have A8_ := Ars.keep A8 K9 (ninS hne nin0)
  show oGo Z _ _ _ _ _ _ n0 _ 0 0 h9 113 #[.val (.ref d), .val (.ref e), .val (.long (((Int32.ofNat s).toInt64 + (Int32.ofNat ls.length).toInt64) + (1 : Int64))), .second, .unset, .unset] []
  refine oGo.aloadN (q := 114) d10_113 rfl rfl rfl ?_
  refine oGo.getF (host := "") (q := 117) (v := (.ref a)) d10_114 rfl (Or.inl (hw _ (List.mem_of_getElem? (i := 41) rfl))) Via.refl F9_literals ?_
  refine oGo.aloadN (q := 118) d10_117 rfl rfl rfl ?_
  refine oGo.getF (host := "") (q := 121) (v := (.int (Int32.ofNat (s + (ls.length + 1))))) d10_118 rfl (Or.inl (hw _ (List.mem_of_getElem? (i := 70) rfl))) Via.refl F9 ?_
  refine oGo.iconst (q := 122) (v := (1 : Int32)) d10_121 rfl rfl ?_
  refine oGo.isub (q := 123) d10_122 rfl ?_
  refine oGo.iconst (q := 124) (v := (0 : Int32)) d10_123 rfl rfl ?_
  refine oGo.iastore (q := 125) (i := (s + ls.length)) d10_124 rfl A8_ (own_pred (i := s + ls.length) (by omega)) (by simp only [List.length_append, List.length_take, List.length_drop]; omega) ga ?_
  intro h10 K10 A10
  have B___ := Ars.keep B__ K10 (ninS hea nin0)
  have E9_ := Exa.keep E9 K10
  have F9_ := Fld.keep F9 K10 (ninS (Ne.symm hne) nin0)
  have F9_literals_ := Fld.keep F9_literals K10 (ninS (Ne.symm hne) nin0)
  have F9_clauseCount_ := Fld.keep F9_clauseCount K10 (ninS (Ne.symm hne) nin0)
  have F9_variableCount_ := Fld.keep F9_variableCount K10 (ninS (Ne.symm hne) nin0)
  show oGo Z _ _ _ _ _ _ n0 _ 0 0 h10 125 #[.val (.ref d), .val (.ref e), .val (.long (((Int32.ofNat s).toInt64 + (Int32.ofNat ls.length).toInt64) + (1 : Int64))), .second, .unset, .unset] []
  refine oGo.aloadN (q := 126) d10_125 rfl rfl rfl ?_
  refine oGo.dup (q := 127) d10_126 rfl rfl ?_
  refine oGo.getF (host := "") (q := 130) (v := (.int c)) d10_127 rfl (Or.inl (hw _ (List.mem_of_getElem? (i := 77) rfl))) Via.refl F9_clauseCount_ ?_
  refine oGo.iconst (q := 131) (v := (1 : Int32)) d10_130 rfl rfl ?_
  refine oGo.iadd (q := 132) d10_131 rfl ?_
  refine oGo.putF (host := "") (ty := .int) (q := 135) d10_132 rfl (Or.inl (hw _ (List.mem_of_getElem? (i := 77) rfl))) Via.refl F9_clauseCount_ E9_ (Or.inl (hw _ (List.mem_of_getElem? (i := 78) rfl))) (hw _ (List.mem_of_getElem? (i := 34) rfl)) (by decide) rfl rfl gd ?_
  intro h11 K11 E11 F11 G11
  have F11_literals := G11 (slot_ne (Or.inl (hw _ (List.mem_of_getElem? (i := 42) rfl))) (Or.inl (hw _ (List.mem_of_getElem? (i := 78) rfl))) (by decide) (t := (.array .int)) (t' := .int) (by decide) (by decide)) F9_literals_
  have F11_literalSlots := G11 (slot_ne (Or.inl (hw _ (List.mem_of_getElem? (i := 71) rfl))) (Or.inl (hw _ (List.mem_of_getElem? (i := 78) rfl))) (by decide) (t := .int) (t' := .int) (by decide) (by decide)) F9_
  have F11_variableCount := G11 (slot_ne (Or.inl (hw _ (List.mem_of_getElem? (i := 66) rfl))) (Or.inl (hw _ (List.mem_of_getElem? (i := 78) rfl))) (by decide) (t := .int) (t' := .int) (by decide) (by decide)) F9_variableCount_
  have B____ := Ars.keep B___ K11 (ninS hed nin0)
  have A10_ := Ars.keep A10 K11 (ninS hne nin0)
  show oGo Z _ _ _ _ _ _ n0 _ 0 0 h11 135 #[.val (.ref d), .val (.ref e), .val (.long (((Int32.ofNat s).toInt64 + (Int32.ofNat ls.length).toInt64) + (1 : Int64))), .second, .unset, .unset] []
  exact oGo.retV d10_135 rfl (by decide) (by decide) (⟨rfl, (Keep.trans (Keep.trans (Keep.trans (Keep.trans (Keep.refl h [d, a]) K8 (fun x hx => Or.inl (by simp at hx; simp [hx]))) K9 (fun x hx => Or.inl (by simp at hx; simp [hx]))) K10 (fun x hx => Or.inl (by simp at hx; simp [hx]))) K11 (fun x hx => Or.inl (by simp at hx; simp [hx]))), ⟨E11, F11_literals, F11_literalSlots, F11, F11_variableCount⟩, ⟨_, A10_, by simp only [List.length_set, List.length_append, List.length_take, List.length_drop]; omega⟩, gd, ga, hne⟩)
theorem d1_0 : decode jdk_42_method_139_code 0 = .ok (.getstatic 38, 3) := by decide +kernel
theorem d1_3 : decode jdk_42_method_139_code 3 = .ok (.ifCond .eq 23, 3) := by decide +kernel
theorem d1_6 : decode jdk_42_method_139_code 6 = .ok (.iload_n 0, 1) := by decide +kernel
theorem d1_7 : decode jdk_42_method_139_code 7 = .ok (.invokestatic 1015, 3) := by decide +kernel
theorem d1_10 : decode jdk_42_method_139_code 10 = .ok (.ifCond .eq 16, 3) := by decide +kernel
theorem d1_13 : decode jdk_42_method_139_code 13 = .ok (.new 10, 3) := by decide +kernel
theorem d1_16 : decode jdk_42_method_139_code 16 = .ok (.dup, 1) := by decide +kernel
theorem d1_17 : decode jdk_42_method_139_code 17 = .ok (.iload_n 0, 1) := by decide +kernel
theorem d1_18 : decode jdk_42_method_139_code 18 = .ok (.invokestatic 1018, 3) := by decide +kernel
theorem d1_21 : decode jdk_42_method_139_code 21 = .ok (.iconst 0, 1) := by decide +kernel
theorem d1_22 : decode jdk_42_method_139_code 22 = .ok (.invokespecial 209, 3) := by decide +kernel
theorem d1_25 : decode jdk_42_method_139_code 25 = .ok (.areturn, 1) := by decide +kernel
theorem d1_26 : decode jdk_42_method_139_code 26 = .ok (.new 10, 3) := by decide +kernel
theorem d1_29 : decode jdk_42_method_139_code 29 = .ok (.dup, 1) := by decide +kernel
theorem d1_30 : decode jdk_42_method_139_code 30 = .ok (.iload_n 0, 1) := by decide +kernel
theorem d1_31 : decode jdk_42_method_139_code 31 = .ok (.invokestatic 1021, 3) := by decide +kernel
theorem d1_34 : decode jdk_42_method_139_code 34 = .ok (.iconst 1, 1) := by decide +kernel
theorem d1_35 : decode jdk_42_method_139_code 35 = .ok (.invokespecial 209, 3) := by decide +kernel
theorem d1_38 : decode jdk_42_method_139_code 38 = .ok (.areturn, 1) := by decide +kernel
theorem own_pd4 : parseMethodDescriptor "(C)Ljava/lang/String;" = some ⟨[.char], some (.object "java/lang/String")⟩ := by decide +kernel
theorem d2_0 : decode jdk_43_method_3_code 0 = .ok (.iload_n 0, 1) := by decide +kernel
theorem d2_1 : decode jdk_43_method_3_code 1 = .ok (.sipush 255, 3) := by decide +kernel
theorem d2_4 : decode jdk_43_method_3_code 4 = .ok (.if_icmp .gt 7, 3) := by decide +kernel
theorem d2_7 : decode jdk_43_method_3_code 7 = .ok (.iconst 1, 1) := by decide +kernel
theorem d2_8 : decode jdk_43_method_3_code 8 = .ok (.goto 4, 3) := by decide +kernel
theorem d2_11 : decode jdk_43_method_3_code 11 = .ok (.iconst 0, 1) := by decide +kernel
theorem d2_12 : decode jdk_43_method_3_code 12 = .ok (.ireturn, 1) := by decide +kernel
theorem own_pd5 : parseMethodDescriptor "(C)Z" = some ⟨[.char], some .boolean⟩ := by decide +kernel
theorem d3_0 : decode jdk_43_method_46_code 0 = .ok (.iconst 1, 1) := by decide +kernel
theorem d3_1 : decode jdk_43_method_46_code 1 = .ok (.newarray .byte, 2) := by decide +kernel
theorem d3_3 : decode jdk_43_method_46_code 3 = .ok (.dup, 1) := by decide +kernel
theorem d3_4 : decode jdk_43_method_46_code 4 = .ok (.iconst 0, 1) := by decide +kernel
theorem d3_5 : decode jdk_43_method_46_code 5 = .ok (.iload_n 0, 1) := by decide +kernel
theorem d3_6 : decode jdk_43_method_46_code 6 = .ok (.i2b, 1) := by decide +kernel
theorem d3_7 : decode jdk_43_method_46_code 7 = .ok (.bastore, 1) := by decide +kernel
theorem d3_8 : decode jdk_43_method_46_code 8 = .ok (.areturn, 1) := by decide +kernel
theorem own_pd6 : parseMethodDescriptor "(C)[B" = some ⟨[.char], some (.array .byte)⟩ := by decide +kernel
theorem d4_0 : decode jdk_42_method_151_code 0 = .ok (.aload_n 0, 1) := by decide +kernel
theorem d4_1 : decode jdk_42_method_151_code 1 = .ok (.invokespecial 1, 3) := by decide +kernel
theorem d4_4 : decode jdk_42_method_151_code 4 = .ok (.aload_n 0, 1) := by decide +kernel
theorem d4_5 : decode jdk_42_method_151_code 5 = .ok (.aload_n 1, 1) := by decide +kernel
theorem d4_6 : decode jdk_42_method_151_code 6 = .ok (.putfield 9, 3) := by decide +kernel
theorem d4_9 : decode jdk_42_method_151_code 9 = .ok (.aload_n 0, 1) := by decide +kernel
theorem d4_10 : decode jdk_42_method_151_code 10 = .ok (.iload_n 2, 1) := by decide +kernel
theorem d4_11 : decode jdk_42_method_151_code 11 = .ok (.putfield 15, 3) := by decide +kernel
theorem d4_14 : decode jdk_42_method_151_code 14 = .ok (.return_, 1) := by decide +kernel
theorem own_pd7 : parseMethodDescriptor "([BB)V" = some ⟨[(.array .byte), .byte], none⟩ := by decide +kernel
theorem d6_0 : decode prog_18_method_1_code 0 = .ok (.aload_n 0, 1) := by decide +kernel
theorem d6_1 : decode prog_18_method_1_code 1 = .ok (.invokespecial 1, 3) := by decide +kernel
theorem d6_4 : decode prog_18_method_1_code 4 = .ok (.aload_n 0, 1) := by decide +kernel
theorem d6_5 : decode prog_18_method_1_code 5 = .ok (.new 7, 3) := by decide +kernel
theorem d6_8 : decode prog_18_method_1_code 8 = .ok (.dup, 1) := by decide +kernel
theorem d6_9 : decode prog_18_method_1_code 9 = .ok (.invokespecial 9, 3) := by decide +kernel
theorem d6_12 : decode prog_18_method_1_code 12 = .ok (.putfield 10, 3) := by decide +kernel
theorem d6_15 : decode prog_18_method_1_code 15 = .ok (.aload_n 0, 1) := by decide +kernel
theorem d6_16 : decode prog_18_method_1_code 16 = .ok (.aload_n 1, 1) := by decide +kernel
theorem d6_17 : decode prog_18_method_1_code 17 = .ok (.ldc 16, 2) := by decide +kernel
theorem d6_19 : decode prog_18_method_1_code 19 = .ok (.invokestatic 18, 3) := by decide +kernel
theorem d6_22 : decode prog_18_method_1_code 22 = .ok (.checkcast 24, 3) := by decide +kernel
theorem d6_25 : decode prog_18_method_1_code 25 = .ok (.putfield 26, 3) := by decide +kernel
theorem d6_28 : decode prog_18_method_1_code 28 = .ok (.return_, 1) := by decide +kernel
theorem own_pd8 : parseMethodDescriptor "(Ljava/lang/String;)V" = some ⟨[(.object "java/lang/String")], none⟩ := by decide +kernel
theorem d8_0 : decode jdk_31_method_11_code 0 = .ok (.aload_n 0, 1) := by decide +kernel
theorem d8_1 : decode jdk_31_method_11_code 1 = .ok (.ifnonnull 12, 3) := by decide +kernel
theorem d8_4 : decode jdk_31_method_11_code 4 = .ok (.new 84, 3) := by decide +kernel
theorem d8_7 : decode jdk_31_method_11_code 7 = .ok (.dup, 1) := by decide +kernel
theorem d8_8 : decode jdk_31_method_11_code 8 = .ok (.aload_n 1, 1) := by decide +kernel
theorem d8_9 : decode jdk_31_method_11_code 9 = .ok (.invokespecial 87, 3) := by decide +kernel
theorem d8_13 : decode jdk_31_method_11_code 13 = .ok (.aload_n 0, 1) := by decide +kernel
theorem d8_14 : decode jdk_31_method_11_code 14 = .ok (.areturn, 1) := by decide +kernel
theorem own_pd9 : parseMethodDescriptor "(Ljava/lang/Object;Ljava/lang/String;)Ljava/lang/Object;" = some ⟨[(.object "java/lang/Object"), (.object "java/lang/String")], some (.object "java/lang/Object")⟩ := by decide +kernel
theorem d9_0 : decode prog_18_method_3_code 0 = .ok (.aload_n 0, 1) := by decide +kernel
theorem d9_1 : decode prog_18_method_3_code 1 = .ok (.getfield 10, 3) := by decide +kernel
theorem d9_4 : decode prog_18_method_3_code 4 = .ok (.aload_n 1, 1) := by decide +kernel
theorem d9_5 : decode prog_18_method_3_code 5 = .ok (.invokevirtual 37, 3) := by decide +kernel
theorem d9_8 : decode prog_18_method_3_code 8 = .ok (.aload_n 0, 1) := by decide +kernel
theorem d9_9 : decode prog_18_method_3_code 9 = .ok (.aconst_null, 1) := by decide +kernel
theorem d9_10 : decode prog_18_method_3_code 10 = .ok (.putfield 29, 3) := by decide +kernel
theorem d9_13 : decode prog_18_method_3_code 13 = .ok (.return_, 1) := by decide +kernel
theorem d12_0 : decode prog_18_method_2_code 0 = .ok (.aload_n 0, 1) := by decide +kernel
theorem d12_1 : decode prog_18_method_2_code 1 = .ok (.aconst_null, 1) := by decide +kernel
theorem d12_2 : decode prog_18_method_2_code 2 = .ok (.putfield 29, 3) := by decide +kernel
theorem d12_5 : decode prog_18_method_2_code 5 = .ok (.aload_n 0, 1) := by decide +kernel
theorem d12_6 : decode prog_18_method_2_code 6 = .ok (.getfield 10, 3) := by decide +kernel
theorem d12_9 : decode prog_18_method_2_code 9 = .ok (.invokevirtual 33, 3) := by decide +kernel
theorem d12_12 : decode prog_18_method_2_code 12 = .ok (.ireturn, 1) := by decide +kernel
def own_str (Z : State) (h : Heap) (a : Addr) (v0 v1 : Value) : Prop := Exa Z h a "java/lang/String" ∧ Fld Z h a "java/lang/String" "value" "[B" v0 ∧ Fld Z h a "java/lang/String" "coder" "B" v1
theorem own_str.lt {Z : State} {h : Heap} {a : Addr} {v0 v1 : Value} (O : own_str Z h a v0 v1) : a < h.size := O.1.lt
theorem own_str.keep {Z : State} {h h' : Heap} {ws : List Addr} {a : Addr} {v0 v1 : Value} (O : own_str Z h a v0 v1) (K : Keep h h' ws) (q : a ∉ ws) : own_str Z h' a v0 v1 := by
  obtain ⟨E, F0, F1⟩ := O; exact ⟨E.keep K, F0.keep K q, F1.keep K q⟩
def own_es (Z : State) (h : Heap) (a : Addr) (v0 v1 v2 : Value) : Prop := Exa Z h a "com/example/ferret/ferret/engine/ExternalSolver" ∧ Fld Z h a "com/example/ferret/ferret/engine/ExternalSolver" "problem" "Lcom/example/ferret/ferret/engine/Dimacs;" v0 ∧ Fld Z h a "com/example/ferret/ferret/engine/ExternalSolver" "program" "Ljava/lang/String;" v1 ∧ Fld Z h a "com/example/ferret/ferret/engine/ExternalSolver" "assignment" "Ljava/util/BitSet;" v2
theorem own_es.lt {Z : State} {h : Heap} {a : Addr} {v0 v1 v2 : Value} (O : own_es Z h a v0 v1 v2) : a < h.size := O.1.lt
theorem own_es.keep {Z : State} {h h' : Heap} {ws : List Addr} {a : Addr} {v0 v1 v2 : Value} (O : own_es Z h a v0 v1 v2) (K : Keep h h' ws) (q : a ∉ ws) : own_es Z h' a v0 v1 v2 := by
  obtain ⟨E, F0, F1, F2⟩ := O; exact ⟨E.keep K, F0.keep K q, F1.keep K q, F2.keep K q⟩
theorem own_sta {Z : State} {h h' : Heap} {C n d : String} {v : Value} (F : Sta Z h C n d v) (K : Keep h h' []) : Sta Z h' C n d v := by
  obtain ⟨cf, i, k, f, st, cell, h1, h2, h3, h4, h5, r⟩ := F
  exact ⟨cf, i, k, f, st, cell, h1, h2, h3, h4, K.2.1 _ _ h5 nin0, r⟩
def own_sv (Z : State) (h : Heap) (n0 : Nat) (x d a : Addr) (s : Nat) (c v : Int32) : Prop := (∃ P, own_es Z h x (.ref d) P .null) ∧ own_st Z h n0 d a s c v ∧ n0 ≤ x ∧ x ≠ d ∧ x ≠ a
theorem own_sv.keep {Z : State} {h h' : Heap} {n0 : Nat} {x d a : Addr} {s : Nat} {c v : Int32} {ws : List Addr} (O : own_sv Z h n0 x d a s c v) (K : Keep h h' ws) (q0 : x ∉ ws) (q1 : d ∉ ws) (q2 : a ∉ ws) : own_sv Z h' n0 x d a s c v := by
  obtain ⟨⟨P, O⟩, S, r⟩ := O
  exact ⟨⟨P, O.keep K q0⟩, S.keep K q1 q2, r⟩
theorem own_sv.exa {Z : State} {h : Heap} {n0 : Nat} {x d a : Addr} {s : Nat} {c v : Int32} (O : own_sv Z h n0 x d a s c v) : Exa Z h x "com/example/ferret/ferret/engine/ExternalSolver" := by
  obtain ⟨⟨P, O⟩, -⟩ := O
  exact O.1
theorem own_sv.lt {Z : State} {h : Heap} {n0 : Nat} {x d a : Addr} {s : Nat} {c v : Int32} (O : own_sv Z h n0 x d a s c v) : x < h.size ∧ d < h.size ∧ a < h.size := by
  obtain ⟨⟨P, O⟩, S, r⟩ := O
  exact ⟨O.lt, S.lt⟩
theorem own_ef2 (m : MethodId) (x0 : Int32) : entryFrame m #[(.int x0)] 1 = mkF m 0 #[.val (.int x0)] [] := by first | (simp [entryFrame, mkF, argsToLocals, Value.category]; done) | rfl
theorem own_pn2 : plainFor (⟨"java/lang/StringLatin1", "canEncode", "(C)Z"⟩ : MethodName) = true := plainFor_of_name (by first | (simp [plainName, overriddenIn]; done) | decide +kernel)
set_option maxRecDepth 65536 in
set_option maxHeartbeats 40000000 in
theorem cce {Z : State} {a0 : Array Value} (hw : ∀ d ∈ tables_1, d.before a0 Z = true) (c : Int32) (h : Heap) (n0 : Nat) (hc : c.toInt ≤ 255) :
    oCon Z (⟨"java/lang/StringLatin1", "canEncode", "(C)Z"⟩ : MethodName) jdk_43_method_3_code 1 (some .boolean) ({ frames := 0, cells := 0, slots := 0, locals := 0 } : Room) #[(.int c)] h n0 (fun v h' => v = some (.int 1) ∧ h' = h) := by
  refine oCon.of own_pn2 (fun m => own_ef2 m c) ?_
  show oGo Z _ _ _ _ _ _ n0 _ 0 0 h 0 #[.val (.int c)] []
  have z : (255 : Int32).toInt = 255 := by decide
  refine oGo.iloadN (q := 1) d2_0 rfl rfl ?_
  refine oGo.sipush (q := 4) (v := (255 : Int32)) d2_1 rfl rfl ?_
  refine oGo.icmp_gt (q := 11) (r := 7) d2_4 (by decide) rfl (fun hc1 => absurd hc1 (by omega)) (fun hc1 => ?_)
  refine oGo.iconst (q := 8) (v := (1 : Int32)) d2_7 rfl rfl ?_
  refine oGo.goto (q := 12) d2_8 (by decide) ?_
  exact oGo.retN (t := .boolean) d2_12 rfl (by simp) (by decide) (by decide) (⟨rfl, rfl⟩)
theorem own_ef3 (m : MethodId) (x0 : Int32) : entryFrame m #[(.int x0)] 1 = mkF m 0 #[.val (.int x0)] [] := by first | (simp [entryFrame, mkF, argsToLocals, Value.category]; done) | rfl
theorem own_pn3 : plainFor (⟨"java/lang/StringLatin1", "toBytes", "(C)[B"⟩ : MethodName) = true := plainFor_of_name (by first | (simp [plainName, overriddenIn]; done) | decide +kernel)
set_option maxRecDepth 65536 in
set_option maxHeartbeats 40000000 in
theorem ctb {Z : State} {a0 : Array Value} (hw : ∀ d ∈ tables_1, d.before a0 Z = true) (c : Int32) (h : Heap) (n0 : Nat) (Z0 : n0 ≤ h.size) :
    oCon Z (⟨"java/lang/StringLatin1", "toBytes", "(C)[B"⟩ : MethodName) jdk_43_method_46_code 1 (some (.array .byte)) ({ frames := 0, cells := 1, slots := 1, locals := 0 } : Room) #[(.int c)] h n0 (fun v h' => ∃ b, v = some (.ref b) ∧ h.size ≤ b ∧ Keep h h' [] ∧ Exa Z h' b "[B") := by
  refine oCon.of own_pn3 (fun m => own_ef3 m c) ?_
  show oGo Z _ _ _ _ _ _ n0 _ 0 0 h 0 #[.val (.int c)] []
  refine oGo.iconst (q := 1) (v := (1 : Int32)) d3_0 rfl rfl ?_
  refine oGo.newP (q := 3) (len := 1) 1 d3_1 rfl (hw _ (List.mem_of_getElem? (i := 17) rfl)) rfl (by first | decide | omega) (by decide) (by decide) (by decide) (ad := "[B") rfl ?_
  intro h12 b g12 K12 A12 E12
  have ge_b : n0 ≤ b := Nat.le_trans Z0 (Nat.le_of_eq g12.symm)
  have Z0_ := Nat.le_trans Z0 K12.1
  replace A12 : Ars Z h12 b .byte [(.int (0 : Int32))] := A12
  show oGo Z _ _ _ _ _ _ n0 _ 1 1 h12 3 #[.val (.int c)] [(.ref b)]
  refine oGo.dup (q := 4) d3_3 rfl rfl ?_
  refine oGo.iconst (q := 5) (v := (0 : Int32)) d3_4 rfl rfl ?_
  refine oGo.iloadN (q := 6) d3_5 rfl rfl ?_
  refine oGo.i2b (q := 7) d3_6 rfl ?_
  refine oGo.bastore (q := 8) (i := 0) (y := c.toInt8.toInt32) d3_7 rfl A12 rfl (Nat.le_of_ble_eq_true rfl) ge_b (own_bb _) ?_
  intro h13 K13 A13
  have E12_ := Exa.keep E12 K13
  have Z0__ := Nat.le_trans Z0_ K13.1
  show oGo Z _ _ _ _ _ _ n0 _ 1 1 h13 8 #[.val (.int c)] [(.ref b)]
  exact oGo.retA d3_8 rfl rfl rfl (by decide) (by decide) (⟨b, rfl, Nat.le_of_eq g12.symm, Keep.trans K12 K13 (fun x hx => Or.inr (by rw [List.mem_singleton.mp hx, g12]; exact Nat.le_refl _)), E12_⟩)
theorem own_ef4 (m : MethodId) (x0 : Addr) (x1 : Addr) (x2 : Int32) : entryFrame m #[(.ref x0), (.ref x1), (.int x2)] 3 = mkF m 0 #[.val (.ref x0), .val (.ref x1), .val (.int x2)] [] := by first | (simp [entryFrame, mkF, argsToLocals, Value.category]; done) | rfl
theorem own_pn4 : plainFor (⟨"java/lang/String", "<init>", "([BB)V"⟩ : MethodName) = true := plainFor_of_name (by first | (simp [plainName, overriddenIn]; done) | decide +kernel)
set_option maxRecDepth 65536 in
set_option maxHeartbeats 40000000 in
theorem csi {Z : State} {a0 : Array Value} (hw : ∀ d ∈ tables_1, d.before a0 Z = true) (t b : Addr) (h : Heap) (n0 : Nat) (gt : n0 ≤ t) (O : own_str Z h t .null (.int 0)) :
    oCon Z (⟨"java/lang/String", "<init>", "([BB)V"⟩ : MethodName) jdk_42_method_151_code 3 none ({ frames := 1, cells := 0, slots := 0, locals := 14 } : Room) #[(.ref t), (.ref b), (.int (0 : Int32))] h n0 (fun v h' => v = none ∧ Keep h h' [t]) := by
  refine oCon.of own_pn4 (fun m => own_ef4 m t b (0 : Int32)) ?_
  show oGo Z _ _ _ _ _ _ n0 _ 0 0 h 0 #[.val (.ref t), .val (.ref b), .val (.int (0 : Int32))] []
  obtain ⟨E14, F14_value, F14_coder⟩ := O
  refine oGo.aloadN (q := 1) d4_0 rfl rfl rfl ?_
  refine oGo.initO (W := 0) (q := 4) d4_1 rfl (hw _ (List.mem_of_getElem? (i := 22) rfl)) (hw _ (List.mem_of_getElem? (i := 23) rfl)) (hw _ (List.mem_of_getElem? (i := 24) rfl)) rfl (by decide) (Nat.le_of_eq rfl) (by decide) ?_
  refine oGo.aloadN (q := 5) d4_4 rfl rfl rfl ?_
  refine oGo.aloadN (q := 6) d4_5 rfl rfl rfl ?_
  refine oGo.putF (host := "") (ty := (.array .byte)) (q := 9) d4_6 rfl (Or.inl (hw _ (List.mem_of_getElem? (i := 25) rfl))) Via.refl F14_value E14 (Or.inr ⟨(hw _ (List.mem_of_getElem? (i := 26) rfl)), rfl, rfl⟩) (hw _ (List.mem_of_getElem? (i := 13) rfl)) (by decide) rfl rfl gt ?_
  intro h15 K15 E15 F15 G15
  have F15_coder := G15 (slot_ne (Or.inr (hw _ (List.mem_of_getElem? (i := 28) rfl))) (Or.inr (hw _ (List.mem_of_getElem? (i := 26) rfl))) (by decide) (t := .byte) (t' := (.array .byte)) (by decide) (by decide)) F14_coder
  show oGo Z _ _ _ _ _ _ n0 _ 0 0 h15 9 #[.val (.ref t), .val (.ref b), .val (.int (0 : Int32))] []
  refine oGo.aloadN (q := 10) d4_9 rfl rfl rfl ?_
  refine oGo.iloadN (q := 11) d4_10 rfl rfl ?_
  refine oGo.putF (host := "") (ty := .byte) (q := 14) d4_11 rfl (Or.inl (hw _ (List.mem_of_getElem? (i := 27) rfl))) Via.refl F15_coder E15 (Or.inr ⟨(hw _ (List.mem_of_getElem? (i := 28) rfl)), rfl, rfl⟩) (hw _ (List.mem_of_getElem? (i := 13) rfl)) (by decide) rfl rfl gt ?_
  intro h16 K16 E16 F16 G16
  have F16_value := G16 (slot_ne (Or.inr (hw _ (List.mem_of_getElem? (i := 26) rfl))) (Or.inr (hw _ (List.mem_of_getElem? (i := 28) rfl))) (by decide) (t := (.array .byte)) (t' := .byte) (by decide) (by decide)) F15
  show oGo Z _ _ _ _ _ _ n0 _ 0 0 h16 14 #[.val (.ref t), .val (.ref b), .val (.int (0 : Int32))] []
  exact oGo.retV d4_14 rfl (by decide) (by decide) (⟨rfl, Keep.trans K15 K16 (fun x hx => Or.inl hx)⟩)
theorem own_ef1 (m : MethodId) (x0 : Int32) : entryFrame m #[(.int x0)] 1 = mkF m 0 #[.val (.int x0)] [] := by first | (simp [entryFrame, mkF, argsToLocals, Value.category]; done) | rfl
theorem own_pn1 : plainFor (⟨"java/lang/String", "valueOf", "(C)Ljava/lang/String;"⟩ : MethodName) = true := plainFor_of_name (by first | (simp [plainName, overriddenIn]; done) | decide +kernel)
set_option maxRecDepth 65536 in
set_option maxHeartbeats 40000000 in
theorem cvo {Z : State} {a0 : Array Value} (hw : ∀ d ∈ tables_1, d.before a0 Z = true) (c g : Int32) (h : Heap) (n0 : Nat) (Z0 : n0 ≤ h.size) (hc : c.toInt ≤ 255) (hg : g ≠ 0) (T : Sta Z h "java/lang/String" "COMPACT_STRINGS" "Z" (.int g)) :
    oCon Z (⟨"java/lang/String", "valueOf", "(C)Ljava/lang/String;"⟩ : MethodName) jdk_42_method_139_code 1 (some (.object "java/lang/String")) ({ frames := 2, cells := 2, slots := 5, locals := 40 } : Room) #[(.int c)] h n0 (fun v h' => ∃ t, v = some (.ref t) ∧ h.size ≤ t ∧ Keep h h' [] ∧ Exa Z h' t "java/lang/String") := by
  refine oCon.of own_pn1 (fun m => own_ef1 m c) ?_
  show oGo Z _ _ _ _ _ _ n0 _ 0 0 h 0 #[.val (.int c)] []
  refine oGo.getS (q := 3) d1_0 rfl (hw _ (List.mem_of_getElem? (i := 7) rfl)) Via.refl T ?_
  refine oGo.if_eq (q := 26) (r := 6) d1_3 (by decide) rfl (fun hc1 => absurd hc1 hg) (fun hc1 => ?_)
  refine oGo.iloadN (q := 7) d1_6 rfl rfl ?_
  refine oGo.callS (W := 0) (rm := ({ frames := 0, cells := 0, slots := 0, locals := 0 } : Room)) (q := 10) [(.int c)] [] d1_7 rfl (hw _ (List.mem_of_getElem? (i := 8) rfl)) (hw _ (List.mem_of_getElem? (i := 9) rfl)) (hw _ (List.mem_of_getElem? (i := 10) rfl)) (hw _ (List.mem_of_getElem? (i := 11) rfl)) (by decide) (cce hw c h n0 hc) rfl rfl own_pd5 rfl rfl (Nat.le_of_eq rfl) (by decide) (by decide) (by decide) (by decide) ?_
  rintro _ h17 ⟨rfl, eh⟩
  all_goals subst h17
  show oGo Z _ _ _ _ _ _ n0 _ 0 0 h 10 #[.val (.int c)] [(.int (1 : Int32))]
  refine oGo.if_eq (q := 26) (r := 13) d1_10 (by decide) rfl (fun hc1 => absurd hc1 (by decide)) (fun hc1 => ?_)
  refine oGo.newO (q := 16) d1_13 rfl (hw _ (List.mem_of_getElem? (i := 12) rfl)) (hw _ (List.mem_of_getElem? (i := 13) rfl)) (hw _ (List.mem_of_getElem? (i := 5) rfl)) (by decide) (by decide) ?_
  intro h18 t g18 K18 E18 D18
  have ge_t : n0 ≤ t := Nat.le_trans Z0 (Nat.le_of_eq g18.symm)
  have Z0_ := Nat.le_trans Z0 K18.1
  have F18_value := D18 (Or.inr (hw _ (List.mem_of_getElem? (i := 26) rfl))) (ty := (.array .byte)) (by decide)
  have F18_coder := D18 (Or.inr (hw _ (List.mem_of_getElem? (i := 28) rfl))) (ty := .byte) (by decide)
  show oGo Z _ _ _ _ _ _ n0 _ 1 4 h18 16 #[.val (.int c)] [(.ref t)]
  refine oGo.dup (q := 17) d1_16 rfl rfl ?_
  refine oGo.iloadN (q := 18) d1_17 rfl rfl ?_
  refine oGo.callS (W := 2) (rm := ({ frames := 0, cells := 1, slots := 1, locals := 0 } : Room)) (q := 21) [(.int c)] [(.ref t), (.ref t)] d1_18 rfl (hw _ (List.mem_of_getElem? (i := 14) rfl)) (hw _ (List.mem_of_getElem? (i := 15) rfl)) (hw _ (List.mem_of_getElem? (i := 10) rfl)) (hw _ (List.mem_of_getElem? (i := 16) rfl)) (by decide) (ctb hw c h18 n0 Z0_) rfl rfl own_pd6 rfl rfl (Nat.le_of_eq rfl) (by decide) (by decide) (by decide) (by decide) ?_
  rintro _ h19 ⟨b, rfl, gb, Kb, EB⟩
  show oGo Z _ _ _ _ _ _ n0 _ 2 5 h19 21 #[.val (.int c)] [(.ref b), (.ref t), (.ref t)]
  have E18_ := Exa.keep E18 Kb
  have F18_value_ := Fld.keep F18_value Kb nin0
  have F18_coder_ := Fld.keep F18_coder Kb nin0
  have Z0__ := Nat.le_trans Z0_ Kb.1
  refine oGo.iconst (q := 22) (v := (0 : Int32)) d1_21 rfl rfl ?_
  refine oGo.callI (W := 1) (rm := ({ frames := 1, cells := 0, slots := 0, locals := 14 } : Room)) (q := 25) (a := t) [(.ref b), (.int (0 : Int32))] [(.ref t)] d1_22 rfl rfl (hw _ (List.mem_of_getElem? (i := 18) rfl)) (hw _ (List.mem_of_getElem? (i := 19) rfl)) (hw _ (List.mem_of_getElem? (i := 5) rfl)) (hw _ (List.mem_of_getElem? (i := 21) rfl)) (by decide) (csi hw t b h19 n0 ge_t ⟨E18_, F18_value_, F18_coder_⟩) rfl rfl own_pd7 rfl rfl (Nat.le_of_eq rfl) (by decide) (by decide) (by decide) (by decide) ?_
  rintro _ h20 ⟨rfl, Ks⟩
  show oGo Z _ _ _ _ _ _ n0 _ 2 5 h20 25 #[.val (.int c)] [(.ref t)]
  exact oGo.retA d1_25 rfl rfl rfl (by decide) (by decide) (⟨t, rfl, Nat.le_of_eq g18.symm, Keep.trans (Keep.trans K18 Kb (fun x hx => nomatch hx)) Ks (fun x hx => Or.inr (by rw [List.mem_singleton.mp hx, g18]; exact Nat.le_refl _)), E18_.keep Ks⟩)
theorem own_ef8 (m : MethodId) (x0 : Addr) (x1 : Addr) : entryFrame m #[(.ref x0), (.ref x1)] 2 = mkF m 0 #[.val (.ref x0), .val (.ref x1)] [] := by first | (simp [entryFrame, mkF, argsToLocals, Value.category]; done) | rfl
theorem own_pn8 : plainFor (⟨"java/util/Objects", "requireNonNull", "(Ljava/lang/Object;Ljava/lang/String;)Ljava/lang/Object;"⟩ : MethodName) = true := plainFor_of_name (by first | (simp [plainName, overriddenIn]; done) | decide +kernel)
set_option maxRecDepth 65536 in
set_option maxHeartbeats 40000000 in
theorem crn {Z : State} {a0 : Array Value} (hw : ∀ d ∈ tables_1, d.before a0 Z = true) (a b : Addr) (h : Heap) (n0 : Nat) :
    oCon Z (⟨"java/util/Objects", "requireNonNull", "(Ljava/lang/Object;Ljava/lang/String;)Ljava/lang/Object;"⟩ : MethodName) jdk_31_method_11_code 2 (some (.object "java/lang/Object")) ({ frames := 0, cells := 0, slots := 0, locals := 0 } : Room) #[(.ref a), (.ref b)] h n0 (fun v h' => v = some (.ref a) ∧ h' = h) := by
  refine oCon.of own_pn8 (fun m => own_ef8 m a b) ?_
  show oGo Z _ _ _ _ _ _ n0 _ 0 0 h 0 #[.val (.ref a), .val (.ref b)] []
  refine oGo.aloadN (q := 1) d8_0 rfl rfl rfl ?_
  refine oGo.ifnonnullYes (q := 13) d8_1 (by decide) ?_
  refine oGo.aloadN (q := 14) d8_13 rfl rfl rfl ?_
  exact oGo.retA d8_14 rfl rfl rfl (by decide) (by decide) (⟨rfl, rfl⟩)
theorem own_ef6 (m : MethodId) (x0 : Addr) (x1 : Addr) : entryFrame m #[(.ref x0), (.ref x1)] 2 = mkF m 0 #[.val (.ref x0), .val (.ref x1)] [] := by first | (simp [entryFrame, mkF, argsToLocals, Value.category]; done) | rfl
theorem own_pn6 : plainFor (⟨"com/example/ferret/ferret/engine/ExternalSolver", "<init>", "(Ljava/lang/String;)V"⟩ : MethodName) = true := plainFor_of_name (by first | (simp [plainName, overriddenIn]; done) | decide +kernel)
set_option maxRecDepth 65536 in
set_option maxHeartbeats 40000000 in
theorem cei {Z : State} {a0 : Array Value} (hw : ∀ d ∈ tables_1, d.before a0 Z = true) (u t : Addr) (h : Heap) (n0 : Nat) (Z0 : n0 ≤ h.size) (gu : n0 ≤ u) (O : own_es Z h u .null .null .null) (ET : Exa Z h t "java/lang/String") :
    wCon Z (⟨"com/example/ferret/ferret/engine/ExternalSolver", "<init>", "(Ljava/lang/String;)V"⟩ : MethodName) prog_18_method_1_code 2 none ({ frames := 2, cells := 4, slots := 1060, locals := 38 } : Room) #[(.ref u), (.ref t)] h n0 (fun v h' => v = none ∧ n0 ≤ h'.size ∧ ∃ d a, own_sv Z h' n0 u d a 0 0 0) := by
  refine wCon.of own_pn6 (fun m => own_ef6 m u t) ?_
  show wGo Z _ _ _ _ _ _ n0 _ 0 0 h 0 #[.val (.ref u), .val (.ref t)] []
  obtain ⟨E21, F21_problem, F21_program, F21_assignment⟩ := O
  refine wGo.aloadN (q := 1) d6_0 rfl rfl rfl ?_
  refine wGo.initO (W := 0) (q := 4) d6_1 rfl (hw _ (List.mem_of_getElem? (i := 32) rfl)) (hw _ (List.mem_of_getElem? (i := 23) rfl)) (hw _ (List.mem_of_getElem? (i := 24) rfl)) rfl (by decide) (Nat.le_of_eq rfl) (by decide) ?_
  refine wGo.aloadN (q := 5) d6_4 rfl rfl rfl ?_
  refine wGo.newO (q := 8) d6_5 rfl (hw _ (List.mem_of_getElem? (i := 33) rfl)) (hw _ (List.mem_of_getElem? (i := 34) rfl)) (hw _ (List.mem_of_getElem? (i := 35) rfl)) (by decide) (by decide) ?_
  intro h22 d g22 K22 E22 D22
  have ne_u_d : u ≠ d := Nat.ne_of_lt (Nat.lt_of_lt_of_eq (E21.lt) g22.symm)
  have ne_t_d : t ≠ d := Nat.ne_of_lt (Nat.lt_of_lt_of_eq (ET.lt) g22.symm)
  have ge_d : n0 ≤ d := Nat.le_trans Z0 (Nat.le_of_eq g22.symm)
  have E21_ := Exa.keep E21 K22
  have F21_problem_ := Fld.keep F21_problem K22 nin0
  have F21_program_ := Fld.keep F21_program K22 nin0
  have F21_assignment_ := Fld.keep F21_assignment K22 nin0
  have ET_ := Exa.keep ET K22
  have Z0_ := Nat.le_trans Z0 K22.1
  have F22_literals := D22 (Or.inl (hw _ (List.mem_of_getElem? (i := 42) rfl))) (ty := (.array .int)) (by decide)
  have F22_literalSlots := D22 (Or.inl (hw _ (List.mem_of_getElem? (i := 71) rfl))) (ty := .int) (by decide)
  have F22_clauseCount := D22 (Or.inl (hw _ (List.mem_of_getElem? (i := 78) rfl))) (ty := .int) (by decide)
  have F22_variableCount := D22 (Or.inl (hw _ (List.mem_of_getElem? (i := 66) rfl))) (ty := .int) (by decide)
  show wGo Z _ _ _ _ _ _ n0 _ 1 4 h22 8 #[.val (.ref u), .val (.ref t)] [(.ref d), (.ref u)]
  refine wGo.dup (q := 9) d6_8 rfl rfl ?_
  refine wGo.callI (W := 2) (rm := ({ frames := 1, cells := 1, slots := 1024, locals := 14 } : Room)) (q := 12) (a := d) [] [(.ref d), (.ref u)] d6_9 rfl rfl (hw _ (List.mem_of_getElem? (i := 36) rfl)) (hw _ (List.mem_of_getElem? (i := 37) rfl)) (hw _ (List.mem_of_getElem? (i := 35) rfl)) (hw _ (List.mem_of_getElem? (i := 38) rfl)) (by decide) (cdi hw d h22 n0 Z0_ ge_d ⟨E22, F22_literals, F22_literalSlots, F22_clauseCount, F22_variableCount⟩) rfl rfl own_pd1 rfl rfl (Nat.le_of_eq rfl) (by decide) (by decide) (by decide) (by decide) ?_
  rintro _ h23 ⟨rfl, Kd, a, ga, S⟩
  show wGo Z _ _ _ _ _ _ n0 _ 2 1028 h23 12 #[.val (.ref u), .val (.ref t)] [(.ref d), (.ref u)]
  have nua : u ≠ a := Nat.ne_of_lt (Nat.lt_of_lt_of_le (E21_.lt) ga)
  have E21__ := Exa.keep E21_ Kd
  have F21_problem__ := Fld.keep F21_problem_ Kd (ninS ne_u_d nin0)
  have F21_program__ := Fld.keep F21_program_ Kd (ninS ne_u_d nin0)
  have F21_assignment__ := Fld.keep F21_assignment_ Kd (ninS ne_u_d nin0)
  have ET__ := Exa.keep ET_ Kd
  have Z0__ := Nat.le_trans Z0_ Kd.1
  refine wGo.putF (host := "") (ty := (.object "com/example/ferret/ferret/engine/Dimacs")) (q := 15) d6_12 rfl (Or.inl (hw _ (List.mem_of_getElem? (i := 43) rfl))) Via.refl F21_problem__ E21__ (Or.inr ⟨(hw _ (List.mem_of_getElem? (i := 44) rfl)), rfl, rfl⟩) (hw _ (List.mem_of_getElem? (i := 1) rfl)) (by decide) rfl rfl gu ?_
  intro h24 K24 E24 F24 G24
  have F24_program := G24 (slot_ne (Or.inr (hw _ (List.mem_of_getElem? (i := 54) rfl))) (Or.inr (hw _ (List.mem_of_getElem? (i := 44) rfl))) (by decide) (t := (.object "java/lang/String")) (t' := (.object "com/example/ferret/ferret/engine/Dimacs")) (by decide) (by decide)) F21_program__
  have F24_assignment := G24 (slot_ne (Or.inl (hw _ (List.mem_of_getElem? (i := 80) rfl))) (Or.inr (hw _ (List.mem_of_getElem? (i := 44) rfl))) (by decide) (t := (.object "java/util/BitSet")) (t' := (.object "com/example/ferret/ferret/engine/Dimacs")) (by decide) (by decide)) F21_assignment__
  have ET___ := Exa.keep ET__ K24
  have Z0___ := Nat.le_trans Z0__ K24.1
  show wGo Z _ _ _ _ _ _ n0 _ 2 1028 h24 15 #[.val (.ref u), .val (.ref t)] []
  have S1 := own_st.keep S K24 (ninS ne_u_d.symm nin0) (ninS nua.symm nin0)
  refine wGo.aloadN (q := 16) d6_15 rfl rfl rfl ?_
  refine wGo.aloadN (q := 17) d6_16 rfl rfl rfl ?_
  refine wGo.ldcS (q := 19) (nn := 28) (text := "program") d6_17 rfl (hw _ (List.mem_of_getElem? (i := 45) rfl)) (fun d hd => by
    simp only [Bundle.stringAtoms, List.mem_cons, List.not_mem_nil, or_false] at hd
    rcases hd with rfl | rfl | rfl | rfl | rfl | rfl | rfl
    · exact (hw _ (List.mem_of_getElem? (i := 5) rfl))
    · exact (hw _ (List.mem_of_getElem? (i := 13) rfl))
    · exact (hw _ (List.mem_of_getElem? (i := 17) rfl))
    · exact (hw _ (List.mem_of_getElem? (i := 26) rfl))
    · exact (hw _ (List.mem_of_getElem? (i := 28) rfl))
    · exact (hw _ (List.mem_of_getElem? (i := 46) rfl))
    · exact (hw _ (List.mem_of_getElem? (i := 47) rfl))) (by decide) (by decide) (by decide) (by decide) ?_
  intro h25 lit K25
  have ET____ := Exa.keep ET___ K25
  have E24_ := Exa.keep E24 K25
  have F24_ := Fld.keep F24 K25 nin0
  have F24_program_ := Fld.keep F24_program K25 nin0
  have F24_assignment_ := Fld.keep F24_assignment K25 nin0
  have Z0____ := Nat.le_trans Z0___ K25.1
  have S2 := own_st.keep S1 K25 nin0 nin0
  show oGo Z _ _ _ _ _ _ n0 _ 4 1060 h25 19 #[.val (.ref u), .val (.ref t)] [(.ref lit), (.ref t), (.ref u)]
  refine oGo.callS (W := 1) (rm := ({ frames := 0, cells := 0, slots := 0, locals := 0 } : Room)) (q := 22) [(.ref t), (.ref lit)] [(.ref u)] d6_19 rfl (hw _ (List.mem_of_getElem? (i := 48) rfl)) (hw _ (List.mem_of_getElem? (i := 49) rfl)) (hw _ (List.mem_of_getElem? (i := 50) rfl)) (hw _ (List.mem_of_getElem? (i := 51) rfl)) (by decide) (crn hw t lit h25 n0) rfl rfl own_pd9 rfl rfl (Nat.le_of_eq rfl) (by decide) (by decide) (by decide) (by decide) ?_
  rintro _ h26 ⟨rfl, eh⟩
  all_goals subst h26
  show oGo Z _ _ _ _ _ _ n0 _ 4 1060 h25 22 #[.val (.ref u), .val (.ref t)] [(.ref t), (.ref u)]
  refine oGo.cast (q := 25) d6_22 rfl (hw _ (List.mem_of_getElem? (i := 52) rfl)) (Ins.self ET____) ?_
  refine oGo.putF (host := "") (ty := (.object "java/lang/String")) (q := 28) d6_25 rfl (Or.inl (hw _ (List.mem_of_getElem? (i := 53) rfl))) Via.refl F24_program_ E24_ (Or.inr ⟨(hw _ (List.mem_of_getElem? (i := 54) rfl)), rfl, rfl⟩) (hw _ (List.mem_of_getElem? (i := 1) rfl)) (by decide) rfl rfl gu ?_
  intro h27 K27 E27 F27 G27
  have F27_problem := G27 (slot_ne (Or.inr (hw _ (List.mem_of_getElem? (i := 44) rfl))) (Or.inr (hw _ (List.mem_of_getElem? (i := 54) rfl))) (by decide) (t := (.object "com/example/ferret/ferret/engine/Dimacs")) (t' := (.object "java/lang/String")) (by decide) (by decide)) F24_
  have F27_assignment := G27 (slot_ne (Or.inl (hw _ (List.mem_of_getElem? (i := 80) rfl))) (Or.inr (hw _ (List.mem_of_getElem? (i := 54) rfl))) (by decide) (t := (.object "java/util/BitSet")) (t' := (.object "java/lang/String")) (by decide) (by decide)) F24_assignment_
  have ET_____ := Exa.keep ET____ K27
  have Z0_____ := Nat.le_trans Z0____ K27.1
  show oGo Z _ _ _ _ _ _ n0 _ 4 1060 h27 28 #[.val (.ref u), .val (.ref t)] []
  exact oGo.retV d6_28 rfl (by decide) (by decide) (⟨⟨rfl, Z0_____, d, a, ⟨_, ⟨E27, F27_problem, F27, F27_assignment⟩⟩, own_st.keep S2 K27 (ninS ne_u_d.symm nin0) (ninS nua.symm nin0), gu, ne_u_d, nua⟩, K27.1⟩)
theorem own_ef9 (m : MethodId) (x0 : Addr) (x1 : Addr) : entryFrame m #[(.ref x0), (.ref x1)] 2 = mkF m 0 #[.val (.ref x0), .val (.ref x1)] [] := by first | (simp [entryFrame, mkF, argsToLocals, Value.category]; done) | rfl
theorem own_pn9 : plainFor (⟨"com/example/ferret/ferret/engine/ExternalSolver", "addClause", "([I)V"⟩ : MethodName) = true := plainFor_of_name (by first | (simp [plainName, overriddenIn]; done) | decide +kernel)
set_option maxRecDepth 65536 in
set_option maxHeartbeats 40000000 in
theorem cea {Z : State} {a0 : Array Value} (hw : ∀ d ∈ tables_1, d.before a0 Z = true) (u e d a : Addr) (s s' : Nat) (c v : Int32) (ls : List Value) (h : Heap) (n0 : Nat) (Z0 : n0 ≤ h.size) (O : own_sv Z h n0 u d a s c v) (B : Ars Z h e .int ls) (heu : e ≠ u) (hed : e ≠ d) (hea : e ≠ a) (hv : 0 ≤ v.toInt) (H : own_oks v ls) (hs : s + (ls.length + 1) ≤ 1024) (hs' : s + (ls.length + 1) = s') :
    oCon Z (⟨"com/example/ferret/ferret/engine/ExternalSolver", "addClause", "([I)V"⟩ : MethodName) prog_18_method_3_code 2 none ({ frames := 2, cells := 0, slots := 0, locals := 79 } : Room) #[(.ref u), (.ref e)] h n0 (fun r h' => r = none ∧ h.size ≤ h'.size ∧ own_sv Z h' n0 u d a s' (c + (1 : Int32)) v) := by
  refine oCon.of own_pn9 (fun m => own_ef9 m u e) ?_
  show oGo Z _ _ _ _ _ _ n0 _ 0 0 h 0 #[.val (.ref u), .val (.ref e)] []
  obtain ⟨⟨P, O⟩, S, gu, nud, nua⟩ := O
  obtain ⟨E28, F28_problem, F28_program, F28_assignment⟩ := O
  refine oGo.aloadN (q := 1) d9_0 rfl rfl rfl ?_
  refine oGo.getF (host := "") (q := 4) (v := (.ref d)) d9_1 rfl (Or.inl (hw _ (List.mem_of_getElem? (i := 43) rfl))) Via.refl F28_problem ?_
  refine oGo.aloadN (q := 5) d9_4 rfl rfl rfl ?_
  refine oGo.callV (W := 0) (rm := ({ frames := 1, cells := 0, slots := 0, locals := 60 } : Room)) (q := 8) (a := d) [(.ref e)] [] d9_5 rfl (hw _ (List.mem_of_getElem? (i := 60) rfl)) (hw _ (List.mem_of_getElem? (i := 61) rfl)) (hw _ (List.mem_of_getElem? (i := 63) rfl)) (hw _ (List.mem_of_getElem? (i := 62) rfl)) (hw _ (List.mem_of_getElem? (i := 35) rfl)) (hw _ (List.mem_of_getElem? (i := 64) rfl)) rfl (by decide) (S.1.1) (cac hw d e a s s' c v ls h n0 S B hed hea hv H hs hs') rfl rfl own_pd3 rfl rfl (Nat.le_of_eq rfl) (by decide) (by decide) (by decide) (by decide) ?_
  rintro _ h29 ⟨rfl, K, S'⟩
  show oGo Z _ _ _ _ _ _ n0 _ 0 0 h29 8 #[.val (.ref u), .val (.ref e)] []
  have E28_ := Exa.keep E28 K
  have F28_problem_ := Fld.keep F28_problem K (ninS nud (ninS nua nin0))
  have F28_program_ := Fld.keep F28_program K (ninS nud (ninS nua nin0))
  have F28_assignment_ := Fld.keep F28_assignment K (ninS nud (ninS nua nin0))
  refine oGo.aloadN (q := 9) d9_8 rfl rfl rfl ?_
  refine oGo.aconstNull (q := 10) d9_9 rfl ?_
  refine oGo.putF (host := "") (ty := (.object "java/util/BitSet")) (q := 13) d9_10 rfl (Or.inl (hw _ (List.mem_of_getElem? (i := 79) rfl))) Via.refl F28_assignment_ E28_ (Or.inl (hw _ (List.mem_of_getElem? (i := 80) rfl))) (hw _ (List.mem_of_getElem? (i := 1) rfl)) (by decide) rfl rfl gu ?_
  intro h30 K30 E30 F30 G30
  have F30_problem := G30 (slot_ne (Or.inr (hw _ (List.mem_of_getElem? (i := 44) rfl))) (Or.inl (hw _ (List.mem_of_getElem? (i := 80) rfl))) (by decide) (t := (.object "com/example/ferret/ferret/engine/Dimacs")) (t' := (.object "java/util/BitSet")) (by decide) (by decide)) F28_problem_
  have F30_program := G30 (slot_ne (Or.inr (hw _ (List.mem_of_getElem? (i := 54) rfl))) (Or.inl (hw _ (List.mem_of_getElem? (i := 80) rfl))) (by decide) (t := (.object "java/lang/String")) (t' := (.object "java/util/BitSet")) (by decide) (by decide)) F28_program_
  show oGo Z _ _ _ _ _ _ n0 _ 0 0 h30 13 #[.val (.ref u), .val (.ref e)] []
  exact oGo.retV d9_13 rfl (by decide) (by decide) (⟨rfl, Nat.le_trans K.1 K30.1, ⟨P, ⟨E30, F30_problem, F30_program, F30⟩⟩, own_st.keep S' K30 (ninS nud.symm nin0) (ninS nua.symm nin0), gu, nud, nua⟩)
theorem own_ef12 (m : MethodId) (x0 : Addr) : entryFrame m #[(.ref x0)] 1 = mkF m 0 #[.val (.ref x0)] [] := by first | (simp [entryFrame, mkF, argsToLocals, Value.category]; done) | rfl
theorem own_pn12 : plainFor (⟨"com/example/ferret/ferret/engine/ExternalSolver", "newVariable", "()I"⟩ : MethodName) = true := plainFor_of_name (by first | (simp [plainName, overriddenIn]; done) | decide +kernel)
set_option maxRecDepth 65536 in
set_option maxHeartbeats 40000000 in
theorem cen {Z : State} {a0 : Array Value} (hw : ∀ d ∈ tables_1, d.before a0 Z = true) (u d a : Addr) (s : Nat) (c v v' : Int32) (h : Heap) (n0 : Nat) (O : own_sv Z h n0 u d a s c v) (hv' : v + (1 : Int32) = v') :
    oCon Z (⟨"com/example/ferret/ferret/engine/ExternalSolver", "newVariable", "()I"⟩ : MethodName) prog_18_method_2_code 1 (some .int) ({ frames := 1, cells := 0, slots := 0, locals := 13 } : Room) #[(.ref u)] h n0 (fun r h' => r = some (.int v') ∧ h.size ≤ h'.size ∧ own_sv Z h' n0 u d a s c v') := by
  refine oCon.of own_pn12 (fun m => own_ef12 m u) ?_
  show oGo Z _ _ _ _ _ _ n0 _ 0 0 h 0 #[.val (.ref u)] []
  obtain ⟨⟨P, O⟩, S, gu, nud, nua⟩ := O
  obtain ⟨E31, F31_problem, F31_program, F31_assignment⟩ := O
  refine oGo.aloadN (q := 1) d12_0 rfl rfl rfl ?_
  refine oGo.aconstNull (q := 2) d12_1 rfl ?_
  refine oGo.putF (host := "") (ty := (.object "java/util/BitSet")) (q := 5) d12_2 rfl (Or.inl (hw _ (List.mem_of_getElem? (i := 79) rfl))) Via.refl F31_assignment E31 (Or.inl (hw _ (List.mem_of_getElem? (i := 80) rfl))) (hw _ (List.mem_of_getElem? (i := 1) rfl)) (by decide) rfl rfl gu ?_
  intro h32 K32 E32 F32 G32
  have F32_problem := G32 (slot_ne (Or.inr (hw _ (List.mem_of_getElem? (i := 44) rfl))) (Or.inl (hw _ (List.mem_of_getElem? (i := 80) rfl))) (by decide) (t := (.object "com/example/ferret/ferret/engine/Dimacs")) (t' := (.object "java/util/BitSet")) (by decide) (by decide)) F31_problem
  have F32_program := G32 (slot_ne (Or.inr (hw _ (List.mem_of_getElem? (i := 54) rfl))) (Or.inl (hw _ (List.mem_of_getElem? (i := 80) rfl))) (by decide) (t := (.object "java/lang/String")) (t' := (.object "java/util/BitSet")) (by decide) (by decide)) F31_program
  show oGo Z _ _ _ _ _ _ n0 _ 0 0 h32 5 #[.val (.ref u)] []
  have S1 := own_st.keep S K32 (ninS nud.symm nin0) (ninS nua.symm nin0)
  refine oGo.aloadN (q := 6) d12_5 rfl rfl rfl ?_
  refine oGo.getF (host := "") (q := 9) (v := (.ref d)) d12_6 rfl (Or.inl (hw _ (List.mem_of_getElem? (i := 43) rfl))) Via.refl F32_problem ?_
  refine oGo.callV (W := 0) (rm := ({ frames := 0, cells := 0, slots := 0, locals := 0 } : Room)) (q := 12) (a := d) [] [] d12_9 rfl (hw _ (List.mem_of_getElem? (i := 86) rfl)) (hw _ (List.mem_of_getElem? (i := 87) rfl)) (hw _ (List.mem_of_getElem? (i := 89) rfl)) (hw _ (List.mem_of_getElem? (i := 88) rfl)) (hw _ (List.mem_of_getElem? (i := 35) rfl)) (hw _ (List.mem_of_getElem? (i := 90) rfl)) rfl (by decide) (S1.1.1) (cnv hw d a s c v v' h32 n0 S1 hv') rfl rfl own_pd2 rfl rfl (Nat.le_of_eq rfl) (by decide) (by decide) (by decide) (by decide) ?_
  rintro _ h33 ⟨rfl, K, S'⟩
  show oGo Z _ _ _ _ _ _ n0 _ 0 0 h33 12 #[.val (.ref u)] [(.int v')]
  have E32_ := Exa.keep E32 K
  have F32_ := Fld.keep F32 K (ninS nud nin0)
  have F32_problem_ := Fld.keep F32_problem K (ninS nud nin0)
  have F32_program_ := Fld.keep F32_program K (ninS nud nin0)
  exact oGo.retI d12_12 rfl (by decide) (by decide) (⟨rfl, Nat.le_trans K32.1 K.1, ⟨P, ⟨E32_, F32_problem_, F32_program_, F32_⟩⟩, S', gu, nud, nua⟩)
theorem own_ef0 (m : MethodId) (x0 : Int32) (x1 : Int32) : entryFrame m #[(.int x0), (.int x1)] maxLocals = mkF m 0 #[.val (.int x0), .val (.int x1), .unset, .unset, .unset, .unset, .unset] [] := by first | (simp [entryFrame, mkF, argsToLocals, Value.category, maxLocals]; done) | rfl
theorem own_pn0 : plainFor x = true := plainFor_of_name (by first | (simp [plainName, overriddenIn, x]; done) | decide +kernel)
set_option maxRecDepth 65536 in
set_option maxHeartbeats 40000000 in
theorem law {Z : State} {a0 : Array Value} (hw : ∀ d ∈ tables_1, d.before a0 Z = true) (p q g : Int32) (h : Heap) (n0 : Nat) (Z0 : n0 ≤ h.size) (hg : g ≠ 0) (T : Sta Z h "java/lang/String" "COMPACT_STRINGS" "Z" (.int g)) :
    wCon Z x code maxLocals ret room_1 #[(.int p), (.int q)] h n0 (fun v _ => v = some (.int 1)) := by
  refine wCon.of own_pn0 (fun m => own_ef0 m p q) ?_
  show wGo Z _ _ _ _ _ _ n0 _ 0 0 h 0 #[.val (.int p), .val (.int q), .unset, .unset, .unset, .unset, .unset] []
  refine wGo.newO (q := 3) at_0 rfl (hw _ (List.mem_of_getElem? (i := 0) rfl)) (hw _ (List.mem_of_getElem? (i := 1) rfl)) (hw _ (List.mem_of_getElem? (i := 2) rfl)) (by decide) (by decide) ?_
  intro h34 u g34 K34 E34 D34
  have ge_u : n0 ≤ u := Nat.le_trans Z0 (Nat.le_of_eq g34.symm)
  have Z0_ := Nat.le_trans Z0 K34.1
  have F34_problem := D34 (Or.inr (hw _ (List.mem_of_getElem? (i := 44) rfl))) (ty := (.object "com/example/ferret/ferret/engine/Dimacs")) (by decide)
  have F34_program := D34 (Or.inr (hw _ (List.mem_of_getElem? (i := 54) rfl))) (ty := (.object "java/lang/String")) (by decide)
  have F34_assignment := D34 (Or.inl (hw _ (List.mem_of_getElem? (i := 80) rfl))) (ty := (.object "java/util/BitSet")) (by decide)
  show wGo Z _ _ _ _ _ _ n0 _ 1 3 h34 3 #[.val (.int p), .val (.int q), .unset, .unset, .unset, .unset, .unset] [(.ref u)]
  refine wGo.dup (q := 4) at_3 rfl rfl ?_
  refine wGo.iloadN (q := 5) at_4 rfl rfl ?_
  refine wGo.sipush (q := 8) (v := (255 : Int32)) at_5 rfl rfl ?_
  refine wGo.iand (q := 9) at_8 rfl ?_
  refine wGo.i2c (q := 10) at_9 rfl ?_
  have hch : ((p &&& (255 : Int32)).toUInt32.toUInt16.toUInt32.toInt32).toInt ≤ 255 := by
    rw [i2c_mask]
    have a1 := c_mask p (255 : Int32) 8 (by decide) (by decide)
    have z : ((2 ^ 8 : Nat) : Int) = 256 := by decide
    rw [z] at a1; omega
  refine wGo.callS (W := 2) (rm := ({ frames := 2, cells := 2, slots := 5, locals := 40 } : Room)) (q := 13) [(.int (p &&& (255 : Int32)).toUInt32.toUInt16.toUInt32.toInt32)] [(.ref u), (.ref u)] at_10 rfl (hw _ (List.mem_of_getElem? (i := 3) rfl)) (hw _ (List.mem_of_getElem? (i := 4) rfl)) (hw _ (List.mem_of_getElem? (i := 5) rfl)) (hw _ (List.mem_of_getElem? (i := 6) rfl)) (by decide) (cvo hw (p &&& (255 : Int32)).toUInt32.toUInt16.toUInt32.toInt32 g h34 n0 Z0_ hch hg (own_sta T K34)) rfl rfl own_pd4 rfl rfl (Nat.le_of_eq rfl) (by decide) (by decide) (by decide) (by decide) ?_
  rintro _ h35 ⟨t, rfl, gt, Kt, ET⟩
  show wGo Z _ _ _ _ _ _ n0 _ 3 8 h35 13 #[.val (.int p), .val (.int q), .unset, .unset, .unset, .unset, .unset] [(.ref t), (.ref u), (.ref u)]
  have E34_ := Exa.keep E34 Kt
  have F34_problem_ := Fld.keep F34_problem Kt nin0
  have F34_program_ := Fld.keep F34_program Kt nin0
  have F34_assignment_ := Fld.keep F34_assignment Kt nin0
  have Z0__ := Nat.le_trans Z0_ Kt.1
  refine wGo.callIW (W := 1) (rm := ({ frames := 2, cells := 4, slots := 1060, locals := 38 } : Room)) (q := 16) (a := u) [(.ref t)] [(.ref u)] at_13 rfl rfl (hw _ (List.mem_of_getElem? (i := 29) rfl)) (hw _ (List.mem_of_getElem? (i := 30) rfl)) (hw _ (List.mem_of_getElem? (i := 2) rfl)) (hw _ (List.mem_of_getElem? (i := 31) rfl)) (by decide) (cei hw u t h35 n0 Z0__ ge_u ⟨E34_, F34_problem_, F34_program_, F34_assignment_⟩ ET) rfl rfl own_pd8 rfl rfl (Nat.le_of_eq rfl) (by decide) (by decide) (by decide) (by decide) ?_
  rintro _ h36 ⟨rfl, Zi, d, a, O⟩
  show oGo Z _ _ _ _ _ _ n0 _ 7 1068 h36 16 #[.val (.int p), .val (.int q), .unset, .unset, .unset, .unset, .unset] [(.ref u)]
  have Hs : h36.size ≤ h36.size := Nat.le_refl _
  refine oGo.astoreN (q := 17) (L' := #[.val (.int p), .val (.int q), .val (.ref u), .unset, .unset, .unset, .unset]) at_16 rfl rfl rfl ?_
  refine oGo.iloadN (q := 18) at_17 rfl rfl ?_
  refine oGo.iconst (q := 19) (v := (1 : Int32)) at_18 rfl rfl ?_
  refine oGo.iand (q := 20) at_19 rfl ?_
  have J30 : ∀ (hh : Heap) (s : Nat) (c : Int32), s ≤ 1 → h36.size ≤ hh.size → n0 ≤ hh.size → own_sv Z hh n0 u d a s c 0 → oGo Z x.cls x.name code maxLocals ret room_1 n0 (fun v h'' => (fun v _ => v = some (.int 1)) v h'' ∧ h36.size ≤ h''.size) 8 1068 hh 30 #[.val (.int p), .val (.int q), .val (.ref u), .unset, .unset, .unset, .unset] [] := by
    intro hh s c hsb Hh Yh Oh
    refine oGo.aloadN (q := 31) at_30 rfl rfl rfl ?_
    refine oGo.callV (W := 0) (rm := ({ frames := 1, cells := 0, slots := 0, locals := 13 } : Room)) (q := 34) (a := u) [] [] at_31 rfl (hw _ (List.mem_of_getElem? (i := 81) rfl)) (hw _ (List.mem_of_getElem? (i := 82) rfl)) (hw _ (List.mem_of_getElem? (i := 84) rfl)) (hw _ (List.mem_of_getElem? (i := 83) rfl)) (hw _ (List.mem_of_getElem? (i := 2) rfl)) (hw _ (List.mem_of_getElem? (i := 85) rfl)) rfl (by decide) (Oh.exa) (cen hw u d a s c 0 1 hh n0 Oh (by decide)) rfl rfl own_pd2 rfl rfl (Nat.le_of_eq rfl) (by decide) (by decide) (by decide) (by decide) ?_
    rintro _ h38 ⟨rfl, N37, O37⟩
    show oGo Z _ _ _ _ _ _ n0 _ 8 1068 h38 34 #[.val (.int p), .val (.int q), .val (.ref u), .unset, .unset, .unset, .unset] [(.int (1 : Int32))]
    have H37 := Nat.le_trans Hh N37
    have Y37 := Nat.le_trans Yh N37
    refine oGo.istoreN (q := 35) (L' := #[.val (.int p), .val (.int q), .val (.ref u), .val (.int (1 : Int32)), .unset, .unset, .unset]) at_34 rfl rfl ?_
    refine oGo.iloadN (q := 36) at_35 rfl rfl ?_
    refine oGo.iconst (q := 37) (v := (2 : Int32)) at_36 rfl rfl ?_
    refine oGo.iand (q := 38) at_37 rfl ?_
    have J63 : ∀ (hh : Heap) (s : Nat) (c : Int32), s ≤ 3 → h36.size ≤ hh.size → n0 ≤ hh.size → own_sv Z hh n0 u d a s c 1 → oGo Z x.cls x.name code maxLocals ret room_1 n0 (fun v h'' => (fun v _ => v = some (.int 1)) v h'' ∧ h36.size ≤ h''.size) 9 1069 hh 63 #[.val (.int p), .val (.int q), .val (.ref u), .val (.int (1 : Int32)), .unset, .unset, .unset] [] := by
      intro hh s c hsb Hh Yh Oh
      refine oGo.aloadN (q := 64) at_63 rfl rfl rfl ?_
      refine oGo.callV (W := 0) (rm := ({ frames := 1, cells := 0, slots := 0, locals := 13 } : Room)) (q := 67) (a := u) [] [] at_64 rfl (hw _ (List.mem_of_getElem? (i := 81) rfl)) (hw _ (List.mem_of_getElem? (i := 82) rfl)) (hw _ (List.mem_of_getElem? (i := 84) rfl)) (hw _ (List.mem_of_getElem? (i := 83) rfl)) (hw _ (List.mem_of_getElem? (i := 2) rfl)) (hw _ (List.mem_of_getElem? (i := 85) rfl)) rfl (by decide) (Oh.exa) (cen hw u d a s c 1 2 hh n0 Oh (by decide)) rfl rfl own_pd2 rfl rfl (Nat.le_of_eq rfl) (by decide) (by decide) (by decide) (by decide) ?_
      rintro _ h40 ⟨rfl, N39, O39⟩
      show oGo Z _ _ _ _ _ _ n0 _ 9 1069 h40 67 #[.val (.int p), .val (.int q), .val (.ref u), .val (.int (1 : Int32)), .unset, .unset, .unset] [(.int (2 : Int32))]
      have H39 := Nat.le_trans Hh N39
      have Y39 := Nat.le_trans Yh N39
      refine oGo.istore (q := 69) (L' := #[.val (.int p), .val (.int q), .val (.ref u), .val (.int (1 : Int32)), .val (.int (2 : Int32)), .unset, .unset]) at_67 rfl rfl ?_
      refine oGo.iloadN (q := 70) at_69 rfl rfl ?_
      refine oGo.bipush (q := 72) (v := (8 : Int32)) at_70 rfl rfl ?_
      refine oGo.iand (q := 73) at_72 rfl ?_
      have J106 : ∀ (hh : Heap) (s : Nat) (c : Int32), s ≤ 6 → h36.size ≤ hh.size → n0 ≤ hh.size → own_sv Z hh n0 u d a s c 2 → oGo Z x.cls x.name code maxLocals ret room_1 n0 (fun v h'' => (fun v _ => v = some (.int 1)) v h'' ∧ h36.size ≤ h''.size) 10 1071 hh 106 #[.val (.int p), .val (.int q), .val (.ref u), .val (.int (1 : Int32)), .val (.int (2 : Int32)), .unset, .unset] [] := by
        intro hh s c hsb Hh Yh Oh
        refine oGo.aloadN (q := 107) at_106 rfl rfl rfl ?_
        refine oGo.callV (W := 0) (rm := ({ frames := 1, cells := 0, slots := 0, locals := 13 } : Room)) (q := 110) (a := u) [] [] at_107 rfl (hw _ (List.mem_of_getElem? (i := 81) rfl)) (hw _ (List.mem_of_getElem? (i := 82) rfl)) (hw _ (List.mem_of_getElem? (i := 84) rfl)) (hw _ (List.mem_of_getElem? (i := 83) rfl)) (hw _ (List.mem_of_getElem? (i := 2) rfl)) (hw _ (List.mem_of_getElem? (i := 85) rfl)) rfl (by decide) (Oh.exa) (cen hw u d a s c 2 3 hh n0 Oh (by decide)) rfl rfl own_pd2 rfl rfl (Nat.le_of_eq rfl) (by decide) (by decide) (by decide) (by decide) ?_
        rintro _ h42 ⟨rfl, N41, O41⟩
        show oGo Z _ _ _ _ _ _ n0 _ 10 1071 h42 110 #[.val (.int p), .val (.int q), .val (.ref u), .val (.int (1 : Int32)), .val (.int (2 : Int32)), .unset, .unset] [(.int (3 : Int32))]
        have H41 := Nat.le_trans Hh N41
        have Y41 := Nat.le_trans Yh N41
        refine oGo.istore (q := 112) (L' := #[.val (.int p), .val (.int q), .val (.ref u), .val (.int (1 : Int32)), .val (.int (2 : Int32)), .val (.int (3 : Int32)), .unset]) at_110 rfl rfl ?_
        refine oGo.iloadN (q := 113) at_112 rfl rfl ?_
        refine oGo.bipush (q := 115) (v := (32 : Int32)) at_113 rfl rfl ?_
        refine oGo.iand (q := 116) at_115 rfl ?_
        have J148 : ∀ (hh : Heap) (s : Nat) (c : Int32), s ≤ 9 → h36.size ≤ hh.size → n0 ≤ hh.size → own_sv Z hh n0 u d a s c 3 → oGo Z x.cls x.name code maxLocals ret room_1 n0 (fun v h'' => (fun v _ => v = some (.int 1)) v h'' ∧ h36.size ≤ h''.size) 11 1073 hh 148 #[.val (.int p), .val (.int q), .val (.ref u), .val (.int (1 : Int32)), .val (.int (2 : Int32)), .val (.int (3 : Int32)), .unset] [] := by
          intro hh s c hsb Hh Yh Oh
          refine oGo.aloadN (q := 149) at_148 rfl rfl rfl ?_
          refine oGo.callV (W := 0) (rm := ({ frames := 1, cells := 0, slots := 0, locals := 13 } : Room)) (q := 152) (a := u) [] [] at_149 rfl (hw _ (List.mem_of_getElem? (i := 81) rfl)) (hw _ (List.mem_of_getElem? (i := 82) rfl)) (hw _ (List.mem_of_getElem? (i := 84) rfl)) (hw _ (List.mem_of_getElem? (i := 83) rfl)) (hw _ (List.mem_of_getElem? (i := 2) rfl)) (hw _ (List.mem_of_getElem? (i := 85) rfl)) rfl (by decide) (Oh.exa) (cen hw u d a s c 3 4 hh n0 Oh (by decide)) rfl rfl own_pd2 rfl rfl (Nat.le_of_eq rfl) (by decide) (by decide) (by decide) (by decide) ?_
          rintro _ h44 ⟨rfl, N43, O43⟩
          show oGo Z _ _ _ _ _ _ n0 _ 11 1073 h44 152 #[.val (.int p), .val (.int q), .val (.ref u), .val (.int (1 : Int32)), .val (.int (2 : Int32)), .val (.int (3 : Int32)), .unset] [(.int (4 : Int32))]
          have H43 := Nat.le_trans Hh N43
          have Y43 := Nat.le_trans Yh N43
          refine oGo.istore (q := 154) (L' := #[.val (.int p), .val (.int q), .val (.ref u), .val (.int (1 : Int32)), .val (.int (2 : Int32)), .val (.int (3 : Int32)), .val (.int (4 : Int32))]) at_152 rfl rfl ?_
          refine oGo.iloadN (q := 155) at_154 rfl rfl ?_
          refine oGo.iconst (q := 156) (v := (1 : Int32)) at_155 rfl rfl ?_
          refine oGo.icmp_ne (q := 181) (r := 159) at_156 (by decide) rfl (fun hc => absurd rfl hc) (fun hc => ?_)
          refine oGo.iload (q := 161) at_159 rfl rfl ?_
          refine oGo.iconst (q := 162) (v := (2 : Int32)) at_161 rfl rfl ?_
          refine oGo.icmp_ne (q := 181) (r := 165) at_162 (by decide) rfl (fun hc => absurd rfl hc) (fun hc => ?_)
          refine oGo.iload (q := 167) at_165 rfl rfl ?_
          refine oGo.iconst (q := 168) (v := (3 : Int32)) at_167 rfl rfl ?_
          refine oGo.icmp_ne (q := 181) (r := 171) at_168 (by decide) rfl (fun hc => absurd rfl hc) (fun hc => ?_)
          refine oGo.iload (q := 173) at_171 rfl rfl ?_
          refine oGo.iconst (q := 174) (v := (4 : Int32)) at_173 rfl rfl ?_
          refine oGo.icmp_ne (q := 181) (r := 177) at_174 (by decide) rfl (fun hc => absurd rfl hc) (fun hc => ?_)
          refine oGo.iconst (q := 178) (v := (1 : Int32)) at_177 rfl rfl ?_
          refine oGo.goto (q := 182) at_178 (by decide) ?_
          exact oGo.retN (t := .boolean) at_182 rfl (by simp) (by decide) (by decide) (⟨rfl, H43⟩)
        refine oGo.if_eq (q := 148) (r := 119) at_116 (by decide) rfl (fun hc => ?_) (fun hc => ?_)
        · skip
          exact oGo.more (by decide) (by decide) (J148 _ _ _ (by omega) H41 Y41 O41)
        · skip
          refine oGo.aloadN (q := 120) at_119 rfl rfl rfl ?_
          refine oGo.iconst (q := 121) (v := (2 : Int32)) at_120 rfl rfl ?_
          refine oGo.newP (q := 123) (len := 2) 2 at_121 rfl (hw _ (List.mem_of_getElem? (i := 40) rfl)) rfl (by first | decide | omega) (by decide) (by decide) (by decide) (ad := "[I") rfl ?_
          intro h45 e148 g45 K45 A45 E45
          have ge_e148 : n0 ≤ e148 := Nat.le_trans Y41 (Nat.le_of_eq g45.symm)
          have Y41_ := Nat.le_trans Y41 K45.1
          replace A45 : Ars Z h45 e148 .int [(.int (0 : Int32)), (.int (0 : Int32))] := A45
          show oGo Z _ _ _ _ _ _ n0 _ 11 1073 h45 123 #[.val (.int p), .val (.int q), .val (.ref u), .val (.int (1 : Int32)), .val (.int (2 : Int32)), .val (.int (3 : Int32)), .unset] [(.ref e148), (.ref u)]
          have nu : e148 ≠ u := (Nat.ne_of_lt (Nat.lt_of_lt_of_eq O41.lt.1 g45.symm)).symm
          have nd : e148 ≠ d := (Nat.ne_of_lt (Nat.lt_of_lt_of_eq O41.lt.2.1 g45.symm)).symm
          have na : e148 ≠ a := (Nat.ne_of_lt (Nat.lt_of_lt_of_eq O41.lt.2.2 g45.symm)).symm
          have P0 := own_sv.keep O41 K45 nin0 nin0 nin0
          have X0 := Nat.le_trans H41 K45.1
          have Y0 := Nat.le_trans Y41 K45.1
          refine oGo.dup (q := 124) at_123 rfl rfl ?_
          refine oGo.iconst (q := 125) (v := (0 : Int32)) at_124 rfl rfl ?_
          refine oGo.iload (q := 127) at_125 rfl rfl ?_
          refine oGo.iastore (q := 128) (i := 0) at_127 rfl A45 rfl (Nat.le_of_ble_eq_true rfl) ge_e148 ?_
          intro h46 K46 A46
          replace A46 : Ars Z h46 e148 .int [(.int (3 : Int32)), (.int (0 : Int32))] := A46
          have E45_ := Exa.keep E45 K46
          have Y41__ := Nat.le_trans Y41_ K46.1
          show oGo Z _ _ _ _ _ _ n0 _ 11 1073 h46 128 #[.val (.int p), .val (.int q), .val (.ref u), .val (.int (1 : Int32)), .val (.int (2 : Int32)), .val (.int (3 : Int32)), .unset] [(.ref e148), (.ref u)]
          have P1 := own_sv.keep P0 K46 (ninS nu.symm nin0) (ninS nd.symm nin0) (ninS na.symm nin0)
          have X1 := Nat.le_trans X0 K46.1
          have Y1 := Nat.le_trans Y0 K46.1
          refine oGo.dup (q := 129) at_128 rfl rfl ?_
          refine oGo.iconst (q := 130) (v := (1 : Int32)) at_129 rfl rfl ?_
          refine oGo.iloadN (q := 131) at_130 rfl rfl ?_
          refine oGo.bipush (q := 133) (v := (64 : Int32)) at_131 rfl rfl ?_
          refine oGo.iand (q := 134) at_133 rfl ?_
          refine oGo.if_eq (q := 141) (r := 137) at_134 (by decide) rfl (fun hl1 => ?_) (fun hl1 => ?_)
          · skip
            refine oGo.iload (q := 143) at_141 rfl rfl ?_
            refine oGo.ineg (q := 144) at_143 rfl ?_
            refine oGo.iastore (q := 145) (i := 1) at_144 rfl A46 rfl (Nat.le_of_ble_eq_true rfl) ge_e148 ?_
            intro h47 K47 A47
            replace A47 : Ars Z h47 e148 .int [(.int (3 : Int32)), (.int (-(2 : Int32)))] := A47
            have E45__ := Exa.keep E45_ K47
            have Y41___ := Nat.le_trans Y41__ K47.1
            show oGo Z _ _ _ _ _ _ n0 _ 11 1073 h47 145 #[.val (.int p), .val (.int q), .val (.ref u), .val (.int (1 : Int32)), .val (.int (2 : Int32)), .val (.int (3 : Int32)), .unset] [(.ref e148), (.ref u)]
            have P2 := own_sv.keep P1 K47 (ninS nu.symm nin0) (ninS nd.symm nin0) (ninS na.symm nin0)
            have X2 := Nat.le_trans X1 K47.1
            have Y2 := Nat.le_trans Y1 K47.1
            refine oGo.callV (W := 0) (rm := ({ frames := 2, cells := 0, slots := 0, locals := 79 } : Room)) (q := 148) (a := u) [(.ref e148)] [] at_145 rfl (hw _ (List.mem_of_getElem? (i := 55) rfl)) (hw _ (List.mem_of_getElem? (i := 56) rfl)) (hw _ (List.mem_of_getElem? (i := 58) rfl)) (hw _ (List.mem_of_getElem? (i := 57) rfl)) (hw _ (List.mem_of_getElem? (i := 2) rfl)) (hw _ (List.mem_of_getElem? (i := 59) rfl)) rfl (by decide) (P2.exa) (cea hw u e148 d a s (s + 3) c 3 [(.int (3 : Int32)), (.int (-(2 : Int32)))] h47 n0 Y2 P2 A47 nu nd na (by decide) (own_oks.cons (by unfold own_ok; decide) (own_oks.cons (by unfold own_ok; decide) (own_oks.nil _))) (by simp only [List.length_cons, List.length_nil]; omega) rfl) rfl rfl own_pd3 rfl rfl (Nat.le_of_eq rfl) (by decide) (by decide) (by decide) (by decide) ?_
            rintro _ h48 ⟨rfl, Nc, Oc⟩
            show oGo Z _ _ _ _ _ _ n0 _ 11 1073 h48 148 #[.val (.int p), .val (.int q), .val (.ref u), .val (.int (1 : Int32)), .val (.int (2 : Int32)), .val (.int (3 : Int32)), .unset] []
            exact J148 _ _ _ (by omega) (Nat.le_trans X2 Nc) (Nat.le_trans Y2 Nc) Oc
          · skip
            refine oGo.iloadN (q := 138) at_137 rfl rfl ?_
            refine oGo.goto (q := 144) at_138 (by decide) ?_
            refine oGo.iastore (q := 145) (i := 1) at_144 rfl A46 rfl (Nat.le_of_ble_eq_true rfl) ge_e148 ?_
            intro h49 K49 A49
            replace A49 : Ars Z h49 e148 .int [(.int (3 : Int32)), (.int (1 : Int32))] := A49
            have E45__ := Exa.keep E45_ K49
            have Y41___ := Nat.le_trans Y41__ K49.1
            show oGo Z _ _ _ _ _ _ n0 _ 11 1073 h49 145 #[.val (.int p), .val (.int q), .val (.ref u), .val (.int (1 : Int32)), .val (.int (2 : Int32)), .val (.int (3 : Int32)), .unset] [(.ref e148), (.ref u)]
            have P2 := own_sv.keep P1 K49 (ninS nu.symm nin0) (ninS nd.symm nin0) (ninS na.symm nin0)
            have X2 := Nat.le_trans X1 K49.1
            have Y2 := Nat.le_trans Y1 K49.1
            refine oGo.callV (W := 0) (rm := ({ frames := 2, cells := 0, slots := 0, locals := 79 } : Room)) (q := 148) (a := u) [(.ref e148)] [] at_145 rfl (hw _ (List.mem_of_getElem? (i := 55) rfl)) (hw _ (List.mem_of_getElem? (i := 56) rfl)) (hw _ (List.mem_of_getElem? (i := 58) rfl)) (hw _ (List.mem_of_getElem? (i := 57) rfl)) (hw _ (List.mem_of_getElem? (i := 2) rfl)) (hw _ (List.mem_of_getElem? (i := 59) rfl)) rfl (by decide) (P2.exa) (cea hw u e148 d a s (s + 3) c 3 [(.int (3 : Int32)), (.int (1 : Int32))] h49 n0 Y2 P2 A49 nu nd na (by decide) (own_oks.cons (by unfold own_ok; decide) (own_oks.cons (by unfold own_ok; decide) (own_oks.nil _))) (by simp only [List.length_cons, List.length_nil]; omega) rfl) rfl rfl own_pd3 rfl rfl (Nat.le_of_eq rfl) (by decide) (by decide) (by decide) (by decide) ?_
            rintro _ h50 ⟨rfl, Nc, Oc⟩
            show oGo Z _ _ _ _ _ _ n0 _ 11 1073 h50 148 #[.val (.int p), .val (.int q), .val (.ref u), .val (.int (1 : Int32)), .val (.int (2 : Int32)), .val (.int (3 : Int32)), .unset] []
            exact J148 _ _ _ (by omega) (Nat.le_trans X2 Nc) (Nat.le_trans Y2 Nc) Oc
      refine oGo.if_eq (q := 106) (r := 76) at_73 (by decide) rfl (fun hc => ?_) (fun hc => ?_)
      · skip
        exact oGo.more (by decide) (by decide) (J106 _ _ _ (by omega) H39 Y39 O39)
      · skip
        refine oGo.aloadN (q := 77) at_76 rfl rfl rfl ?_
        refine oGo.iconst (q := 78) (v := (2 : Int32)) at_77 rfl rfl ?_
        refine oGo.newP (q := 80) (len := 2) 2 at_78 rfl (hw _ (List.mem_of_getElem? (i := 40) rfl)) rfl (by first | decide | omega) (by decide) (by decide) (by decide) (ad := "[I") rfl ?_
        intro h51 e106 g51 K51 A51 E51
        have ge_e106 : n0 ≤ e106 := Nat.le_trans Y39 (Nat.le_of_eq g51.symm)
        have Y39_ := Nat.le_trans Y39 K51.1
        replace A51 : Ars Z h51 e106 .int [(.int (0 : Int32)), (.int (0 : Int32))] := A51
        show oGo Z _ _ _ _ _ _ n0 _ 10 1071 h51 80 #[.val (.int p), .val (.int q), .val (.ref u), .val (.int (1 : Int32)), .val (.int (2 : Int32)), .unset, .unset] [(.ref e106), (.ref u)]
        have nu : e106 ≠ u := (Nat.ne_of_lt (Nat.lt_of_lt_of_eq O39.lt.1 g51.symm)).symm
        have nd : e106 ≠ d := (Nat.ne_of_lt (Nat.lt_of_lt_of_eq O39.lt.2.1 g51.symm)).symm
        have na : e106 ≠ a := (Nat.ne_of_lt (Nat.lt_of_lt_of_eq O39.lt.2.2 g51.symm)).symm
        have P0 := own_sv.keep O39 K51 nin0 nin0 nin0
        have X0 := Nat.le_trans H39 K51.1
        have Y0 := Nat.le_trans Y39 K51.1
        refine oGo.dup (q := 81) at_80 rfl rfl ?_
        refine oGo.iconst (q := 82) (v := (0 : Int32)) at_81 rfl rfl ?_
        refine oGo.iloadN (q := 83) at_82 rfl rfl ?_
        refine oGo.bipush (q := 85) (v := (16 : Int32)) at_83 rfl rfl ?_
        refine oGo.iand (q := 86) at_85 rfl ?_
        refine oGo.if_eq (q := 94) (r := 89) at_86 (by decide) rfl (fun hl0 => ?_) (fun hl0 => ?_)
        · skip
          refine oGo.iload (q := 96) at_94 rfl rfl ?_
          refine oGo.ineg (q := 97) at_96 rfl ?_
          refine oGo.iastore (q := 98) (i := 0) at_97 rfl A51 rfl (Nat.le_of_ble_eq_true rfl) ge_e106 ?_
          intro h52 K52 A52
          replace A52 : Ars Z h52 e106 .int [(.int (-(2 : Int32))), (.int (0 : Int32))] := A52
          have E51_ := Exa.keep E51 K52
          have Y39__ := Nat.le_trans Y39_ K52.1
          show oGo Z _ _ _ _ _ _ n0 _ 10 1071 h52 98 #[.val (.int p), .val (.int q), .val (.ref u), .val (.int (1 : Int32)), .val (.int (2 : Int32)), .unset, .unset] [(.ref e106), (.ref u)]
          have P1 := own_sv.keep P0 K52 (ninS nu.symm nin0) (ninS nd.symm nin0) (ninS na.symm nin0)
          have X1 := Nat.le_trans X0 K52.1
          have Y1 := Nat.le_trans Y0 K52.1
          refine oGo.dup (q := 99) at_98 rfl rfl ?_
          refine oGo.iconst (q := 100) (v := (1 : Int32)) at_99 rfl rfl ?_
          refine oGo.iloadN (q := 101) at_100 rfl rfl ?_
          refine oGo.ineg (q := 102) at_101 rfl ?_
          refine oGo.iastore (q := 103) (i := 1) at_102 rfl A52 rfl (Nat.le_of_ble_eq_true rfl) ge_e106 ?_
          intro h53 K53 A53
          replace A53 : Ars Z h53 e106 .int [(.int (-(2 : Int32))), (.int (-(1 : Int32)))] := A53
          have E51__ := Exa.keep E51_ K53
          have Y39___ := Nat.le_trans Y39__ K53.1
          show oGo Z _ _ _ _ _ _ n0 _ 10 1071 h53 103 #[.val (.int p), .val (.int q), .val (.ref u), .val (.int (1 : Int32)), .val (.int (2 : Int32)), .unset, .unset] [(.ref e106), (.ref u)]
          have P2 := own_sv.keep P1 K53 (ninS nu.symm nin0) (ninS nd.symm nin0) (ninS na.symm nin0)
          have X2 := Nat.le_trans X1 K53.1
          have Y2 := Nat.le_trans Y1 K53.1
          refine oGo.callV (W := 0) (rm := ({ frames := 2, cells := 0, slots := 0, locals := 79 } : Room)) (q := 106) (a := u) [(.ref e106)] [] at_103 rfl (hw _ (List.mem_of_getElem? (i := 55) rfl)) (hw _ (List.mem_of_getElem? (i := 56) rfl)) (hw _ (List.mem_of_getElem? (i := 58) rfl)) (hw _ (List.mem_of_getElem? (i := 57) rfl)) (hw _ (List.mem_of_getElem? (i := 2) rfl)) (hw _ (List.mem_of_getElem? (i := 59) rfl)) rfl (by decide) (P2.exa) (cea hw u e106 d a s (s + 3) c 2 [(.int (-(2 : Int32))), (.int (-(1 : Int32)))] h53 n0 Y2 P2 A53 nu nd na (by decide) (own_oks.cons (by unfold own_ok; decide) (own_oks.cons (by unfold own_ok; decide) (own_oks.nil _))) (by simp only [List.length_cons, List.length_nil]; omega) rfl) rfl rfl own_pd3 rfl rfl (Nat.le_of_eq rfl) (by decide) (by decide) (by decide) (by decide) ?_
          rintro _ h54 ⟨rfl, Nc, Oc⟩
          show oGo Z _ _ _ _ _ _ n0 _ 10 1071 h54 106 #[.val (.int p), .val (.int q), .val (.ref u), .val (.int (1 : Int32)), .val (.int (2 : Int32)), .unset, .unset] []
          exact J106 _ _ _ (by omega) (Nat.le_trans X2 Nc) (Nat.le_trans Y2 Nc) Oc
        · skip
          refine oGo.iload (q := 91) at_89 rfl rfl ?_
          refine oGo.goto (q := 97) at_91 (by decide) ?_
          refine oGo.iastore (q := 98) (i := 0) at_97 rfl A51 rfl (Nat.le_of_ble_eq_true rfl) ge_e106 ?_
          intro h55 K55 A55
          replace A55 : Ars Z h55 e106 .int [(.int (2 : Int32)), (.int (0 : Int32))] := A55
          have E51_ := Exa.keep E51 K55
          have Y39__ := Nat.le_trans Y39_ K55.1
          show oGo Z _ _ _ _ _ _ n0 _ 10 1071 h55 98 #[.val (.int p), .val (.int q), .val (.ref u), .val (.int (1 : Int32)), .val (.int (2 : Int32)), .unset, .unset] [(.ref e106), (.ref u)]
          have P1 := own_sv.keep P0 K55 (ninS nu.symm nin0) (ninS nd.symm nin0) (ninS na.symm nin0)
          have X1 := Nat.le_trans X0 K55.1
          have Y1 := Nat.le_trans Y0 K55.1
          refine oGo.dup (q := 99) at_98 rfl rfl ?_
          refine oGo.iconst (q := 100) (v := (1 : Int32)) at_99 rfl rfl ?_
          refine oGo.iloadN (q := 101) at_100 rfl rfl ?_
          refine oGo.ineg (q := 102) at_101 rfl ?_
          refine oGo.iastore (q := 103) (i := 1) at_102 rfl A55 rfl (Nat.le_of_ble_eq_true rfl) ge_e106 ?_
          intro h56 K56 A56
          replace A56 : Ars Z h56 e106 .int [(.int (2 : Int32)), (.int (-(1 : Int32)))] := A56
          have E51__ := Exa.keep E51_ K56
          have Y39___ := Nat.le_trans Y39__ K56.1
          show oGo Z _ _ _ _ _ _ n0 _ 10 1071 h56 103 #[.val (.int p), .val (.int q), .val (.ref u), .val (.int (1 : Int32)), .val (.int (2 : Int32)), .unset, .unset] [(.ref e106), (.ref u)]
          have P2 := own_sv.keep P1 K56 (ninS nu.symm nin0) (ninS nd.symm nin0) (ninS na.symm nin0)
          have X2 := Nat.le_trans X1 K56.1
          have Y2 := Nat.le_trans Y1 K56.1
          refine oGo.callV (W := 0) (rm := ({ frames := 2, cells := 0, slots := 0, locals := 79 } : Room)) (q := 106) (a := u) [(.ref e106)] [] at_103 rfl (hw _ (List.mem_of_getElem? (i := 55) rfl)) (hw _ (List.mem_of_getElem? (i := 56) rfl)) (hw _ (List.mem_of_getElem? (i := 58) rfl)) (hw _ (List.mem_of_getElem? (i := 57) rfl)) (hw _ (List.mem_of_getElem? (i := 2) rfl)) (hw _ (List.mem_of_getElem? (i := 59) rfl)) rfl (by decide) (P2.exa) (cea hw u e106 d a s (s + 3) c 2 [(.int (2 : Int32)), (.int (-(1 : Int32)))] h56 n0 Y2 P2 A56 nu nd na (by decide) (own_oks.cons (by unfold own_ok; decide) (own_oks.cons (by unfold own_ok; decide) (own_oks.nil _))) (by simp only [List.length_cons, List.length_nil]; omega) rfl) rfl rfl own_pd3 rfl rfl (Nat.le_of_eq rfl) (by decide) (by decide) (by decide) (by decide) ?_
          rintro _ h57 ⟨rfl, Nc, Oc⟩
          show oGo Z _ _ _ _ _ _ n0 _ 10 1071 h57 106 #[.val (.int p), .val (.int q), .val (.ref u), .val (.int (1 : Int32)), .val (.int (2 : Int32)), .unset, .unset] []
          exact J106 _ _ _ (by omega) (Nat.le_trans X2 Nc) (Nat.le_trans Y2 Nc) Oc
    refine oGo.if_eq (q := 63) (r := 41) at_38 (by decide) rfl (fun hc => ?_) (fun hc => ?_)
    · skip
      exact oGo.more (by decide) (by decide) (J63 _ _ _ (by omega) H37 Y37 O37)
    · skip
      refine oGo.aloadN (q := 42) at_41 rfl rfl rfl ?_
      refine oGo.iconst (q := 43) (v := (1 : Int32)) at_42 rfl rfl ?_
      refine oGo.newP (q := 45) (len := 1) 1 at_43 rfl (hw _ (List.mem_of_getElem? (i := 40) rfl)) rfl (by first | decide | omega) (by decide) (by decide) (by decide) (ad := "[I") rfl ?_
      intro h58 e63 g58 K58 A58 E58
      have ge_e63 : n0 ≤ e63 := Nat.le_trans Y37 (Nat.le_of_eq g58.symm)
      have Y37_ := Nat.le_trans Y37 K58.1
      replace A58 : Ars Z h58 e63 .int [(.int (0 : Int32))] := A58
      show oGo Z _ _ _ _ _ _ n0 _ 9 1069 h58 45 #[.val (.int p), .val (.int q), .val (.ref u), .val (.int (1 : Int32)), .unset, .unset, .unset] [(.ref e63), (.ref u)]
      have nu : e63 ≠ u := (Nat.ne_of_lt (Nat.lt_of_lt_of_eq O37.lt.1 g58.symm)).symm
      have nd : e63 ≠ d := (Nat.ne_of_lt (Nat.lt_of_lt_of_eq O37.lt.2.1 g58.symm)).symm
      have na : e63 ≠ a := (Nat.ne_of_lt (Nat.lt_of_lt_of_eq O37.lt.2.2 g58.symm)).symm
      have P0 := own_sv.keep O37 K58 nin0 nin0 nin0
      have X0 := Nat.le_trans H37 K58.1
      have Y0 := Nat.le_trans Y37 K58.1
      refine oGo.dup (q := 46) at_45 rfl rfl ?_
      refine oGo.iconst (q := 47) (v := (0 : Int32)) at_46 rfl rfl ?_
      refine oGo.iloadN (q := 48) at_47 rfl rfl ?_
      refine oGo.iconst (q := 49) (v := (4 : Int32)) at_48 rfl rfl ?_
      refine oGo.iand (q := 50) at_49 rfl ?_
      refine oGo.if_eq (q := 57) (r := 53) at_50 (by decide) rfl (fun hl0 => ?_) (fun hl0 => ?_)
      · skip
        refine oGo.iloadN (q := 58) at_57 rfl rfl ?_
        refine oGo.ineg (q := 59) at_58 rfl ?_
        refine oGo.iastore (q := 60) (i := 0) at_59 rfl A58 rfl (Nat.le_of_ble_eq_true rfl) ge_e63 ?_
        intro h59 K59 A59
        replace A59 : Ars Z h59 e63 .int [(.int (-(1 : Int32)))] := A59
        have E58_ := Exa.keep E58 K59
        have Y37__ := Nat.le_trans Y37_ K59.1
        show oGo Z _ _ _ _ _ _ n0 _ 9 1069 h59 60 #[.val (.int p), .val (.int q), .val (.ref u), .val (.int (1 : Int32)), .unset, .unset, .unset] [(.ref e63), (.ref u)]
        have P1 := own_sv.keep P0 K59 (ninS nu.symm nin0) (ninS nd.symm nin0) (ninS na.symm nin0)
        have X1 := Nat.le_trans X0 K59.1
        have Y1 := Nat.le_trans Y0 K59.1
        refine oGo.callV (W := 0) (rm := ({ frames := 2, cells := 0, slots := 0, locals := 79 } : Room)) (q := 63) (a := u) [(.ref e63)] [] at_60 rfl (hw _ (List.mem_of_getElem? (i := 55) rfl)) (hw _ (List.mem_of_getElem? (i := 56) rfl)) (hw _ (List.mem_of_getElem? (i := 58) rfl)) (hw _ (List.mem_of_getElem? (i := 57) rfl)) (hw _ (List.mem_of_getElem? (i := 2) rfl)) (hw _ (List.mem_of_getElem? (i := 59) rfl)) rfl (by decide) (P1.exa) (cea hw u e63 d a s (s + 2) c 1 [(.int (-(1 : Int32)))] h59 n0 Y1 P1 A59 nu nd na (by decide) (own_oks.cons (by unfold own_ok; decide) (own_oks.nil _)) (by simp only [List.length_cons, List.length_nil]; omega) rfl) rfl rfl own_pd3 rfl rfl (Nat.le_of_eq rfl) (by decide) (by decide) (by decide) (by decide) ?_
        rintro _ h60 ⟨rfl, Nc, Oc⟩
        show oGo Z _ _ _ _ _ _ n0 _ 9 1069 h60 63 #[.val (.int p), .val (.int q), .val (.ref u), .val (.int (1 : Int32)), .unset, .unset, .unset] []
        exact J63 _ _ _ (by omega) (Nat.le_trans X1 Nc) (Nat.le_trans Y1 Nc) Oc
      · skip
        refine oGo.iloadN (q := 54) at_53 rfl rfl ?_
        refine oGo.goto (q := 59) at_54 (by decide) ?_
        refine oGo.iastore (q := 60) (i := 0) at_59 rfl A58 rfl (Nat.le_of_ble_eq_true rfl) ge_e63 ?_
        intro h61 K61 A61
        replace A61 : Ars Z h61 e63 .int [(.int (1 : Int32))] := A61
        have E58_ := Exa.keep E58 K61
        have Y37__ := Nat.le_trans Y37_ K61.1
        show oGo Z _ _ _ _ _ _ n0 _ 9 1069 h61 60 #[.val (.int p), .val (.int q), .val (.ref u), .val (.int (1 : Int32)), .unset, .unset, .unset] [(.ref e63), (.ref u)]
        have P1 := own_sv.keep P0 K61 (ninS nu.symm nin0) (ninS nd.symm nin0) (ninS na.symm nin0)
        have X1 := Nat.le_trans X0 K61.1
        have Y1 := Nat.le_trans Y0 K61.1
        refine oGo.callV (W := 0) (rm := ({ frames := 2, cells := 0, slots := 0, locals := 79 } : Room)) (q := 63) (a := u) [(.ref e63)] [] at_60 rfl (hw _ (List.mem_of_getElem? (i := 55) rfl)) (hw _ (List.mem_of_getElem? (i := 56) rfl)) (hw _ (List.mem_of_getElem? (i := 58) rfl)) (hw _ (List.mem_of_getElem? (i := 57) rfl)) (hw _ (List.mem_of_getElem? (i := 2) rfl)) (hw _ (List.mem_of_getElem? (i := 59) rfl)) rfl (by decide) (P1.exa) (cea hw u e63 d a s (s + 2) c 1 [(.int (1 : Int32))] h61 n0 Y1 P1 A61 nu nd na (by decide) (own_oks.cons (by unfold own_ok; decide) (own_oks.nil _)) (by simp only [List.length_cons, List.length_nil]; omega) rfl) rfl rfl own_pd3 rfl rfl (Nat.le_of_eq rfl) (by decide) (by decide) (by decide) (by decide) ?_
        rintro _ h62 ⟨rfl, Nc, Oc⟩
        show oGo Z _ _ _ _ _ _ n0 _ 9 1069 h62 63 #[.val (.int p), .val (.int q), .val (.ref u), .val (.int (1 : Int32)), .unset, .unset, .unset] []
        exact J63 _ _ _ (by omega) (Nat.le_trans X1 Nc) (Nat.le_trans Y1 Nc) Oc
  refine oGo.if_eq (q := 30) (r := 23) at_20 (by decide) rfl (fun hc => ?_) (fun hc => ?_)
  · skip
    exact oGo.more (by decide) (by decide) (J30 _ _ _ (by omega) Hs Zi O)
  · skip
    refine oGo.aloadN (q := 24) at_23 rfl rfl rfl ?_
    refine oGo.iconst (q := 25) (v := (0 : Int32)) at_24 rfl rfl ?_
    refine oGo.newP (q := 27) (len := 0) 0 at_25 rfl (hw _ (List.mem_of_getElem? (i := 40) rfl)) rfl (by first | decide | omega) (by decide) (by decide) (by decide) (ad := "[I") rfl ?_
    intro h63 e30 g63 K63 A63 E63
    have ge_e30 : n0 ≤ e30 := Nat.le_trans Zi (Nat.le_of_eq g63.symm)
    have Zi_ := Nat.le_trans Zi K63.1
    replace A63 : Ars Z h63 e30 .int [] := A63
    show oGo Z _ _ _ _ _ _ n0 _ 8 1068 h63 27 #[.val (.int p), .val (.int q), .val (.ref u), .unset, .unset, .unset, .unset] [(.ref e30), (.ref u)]
    have nu : e30 ≠ u := (Nat.ne_of_lt (Nat.lt_of_lt_of_eq O.lt.1 g63.symm)).symm
    have nd : e30 ≠ d := (Nat.ne_of_lt (Nat.lt_of_lt_of_eq O.lt.2.1 g63.symm)).symm
    have na : e30 ≠ a := (Nat.ne_of_lt (Nat.lt_of_lt_of_eq O.lt.2.2 g63.symm)).symm
    have P0 := own_sv.keep O K63 nin0 nin0 nin0
    have X0 := Nat.le_trans Hs K63.1
    have Y0 := Nat.le_trans Zi K63.1
    refine oGo.callV (W := 0) (rm := ({ frames := 2, cells := 0, slots := 0, locals := 79 } : Room)) (q := 30) (a := u) [(.ref e30)] [] at_27 rfl (hw _ (List.mem_of_getElem? (i := 55) rfl)) (hw _ (List.mem_of_getElem? (i := 56) rfl)) (hw _ (List.mem_of_getElem? (i := 58) rfl)) (hw _ (List.mem_of_getElem? (i := 57) rfl)) (hw _ (List.mem_of_getElem? (i := 2) rfl)) (hw _ (List.mem_of_getElem? (i := 59) rfl)) rfl (by decide) (P0.exa) (cea hw u e30 d a 0 (0 + 1) 0 0 [] h63 n0 Y0 P0 A63 nu nd na (by decide) (own_oks.nil _) (by simp only [List.length_cons, List.length_nil]; omega) rfl) rfl rfl own_pd3 rfl rfl (Nat.le_of_eq rfl) (by decide) (by decide) (by decide) (by decide) ?_
    rintro _ h64 ⟨rfl, Nc, Oc⟩
    show oGo Z _ _ _ _ _ _ n0 _ 8 1068 h64 30 #[.val (.int p), .val (.int q), .val (.ref u), .unset, .unset, .unset, .unset] []
    exact J30 _ _ _ (by omega) (Nat.le_trans X0 Nc) (Nat.le_trans Y0 Nc) Oc
set_option maxRecDepth 65536 in
set_option maxHeartbeats 40000000 in
theorem comes_1 {Post : Tables → Env → Array Value → State → Outcome → State → Prop} (hpost : ∀ tb e args s v u, (limb_1_1.after args s (.returned v) u = true ∧ limb_1_2.after args s (.returned v) u = true ∧ True) → ReturnedEndW s (.returned v) u (Jvm.fieldLocs frame_1_writes args s ++ Jvm.arrayLocs frame_1_arrays args s ++ Jvm.staticLocs frame_1_statics s) 32 3200 → Post tb e args s (.returned v) u) :
    ArmFor flags0 classFile x code maxLocals ret World_1 tables_1 room_1 Calls_1 rest_1 Pre_1 Post := by
  intro l hfl _ _ p e ha hc hk s m args below hf hA hF happ hP
  obtain ⟨hcalls, hrest, hpre⟩ := hP
  obtain ⟨-, -, -, hnamed, -, -, -, hat⟩ := (Spec.applies_iff hf).mp happ
  obtain ⟨hg, hn⟩ := and_e (Cond.before_iff.mp (show (Jvm.Cond.and given_1 narrow_1).before args s = true from hpre))
  obtain ⟨h1, g0⟩ := and_e hg
  obtain ⟨b0, g1⟩ := and_e g0
  have b1 := g1
  obtain ⟨w0, w1, rfl⟩ : ∃ w0 w1 : Value, args = #[w0, w1] := by
    have hs : args.size = 2 := by simpa [Cond.value, given_1] using h1
    obtain ⟨L⟩ := args
    match L, hs with
    | [w0, w1], _ => exact ⟨w0, w1, rfl⟩
  obtain ⟨hsets, hown0⟩ := atoms_of _ (rest_1_c_eq ▸ (show rest_1_c.before _ s = true from hrest))
  have n3 := not_v (Cond.before_iff.mp (hsets _ (List.mem_of_getElem? (i := 2) rfl)))
  obtain ⟨i7, e6⟩ := is_v (Cond.before_iff.mp (hsets _ (List.mem_of_getElem? (i := 1) rfl)))
  have S8 : Sta s s.heap "java/lang/String" "COMPACT_STRINGS" "Z" (.int i7) := Sta.start e6 (Or.inl (hsets _ (List.mem_of_getElem? (i := 0) rfl)))
  have P9 : ¬ (i7 = (0 : Int32)) := gotF (Cond.eq_ints e6 (Term.int_eval (0))) n3
  have hw := fun d (hd : d ∈ tables_1) => atoms_spec (ws := Jvm.Cond.code x code maxLocals ret :: tables_1) hat d (List.mem_cons_of_mem _ hd)
  have hfit : Fit s := fun {y c} hc i hi => by
    obtain ⟨ha, rfl⟩ := Array.getElem?_eq_some_iff.mp hc
    have q := List.all_eq_true.mp ((Array.all_eq_true_iff_forall_mem.mp hF) _ (Array.getElem_mem ha)) i (List.mem_range.mpr hi)
    simpa [Array.getElem?_eq_getElem hi] using q
  obtain ⟨i0, e0⟩ := is_v b0
  obtain rfl : w0 = (.int i0) := Option.some.inj e0
  obtain ⟨i1, e1⟩ := is_v b1
  obtain rfl : w1 = (.int i1) := Option.some.inj e1
  obtain ⟨n, o, q1, q2, q3, _, L, rfl, ⟨rfl, N⟩, hq⟩ := (law hw i0 i1 i7 s.heap s.heap.size (Nat.le_refl _) P9 S8) l tables_1 p e ha hc hk s m _ below hf ((Spec.applies_iff_loose hf).mp happ).1 ⟨rfl, State.Warmed39.refl s, rfl⟩ trivial
  refine ⟨n, _, q1, q2, q3, hpost _ _ _ _ _ _ ⟨Cond.after_iff.mpr rfl, Cond.after_iff.mpr (eq_i res_at (Term.int_eval (1)) rfl), trivial⟩ ⟨hq.1, hq.2.1, hq.2.2.1, (hq.2.2.2.sift fun y hy => Or.inr (N y hy)).mono (by decide) (by decide)⟩⟩
theorem main_1_1 : Claimed_1_1 := comes_1 fun _ _ _ _ _ _ h hF => ⟨h.1, hF⟩
theorem main_1_2 : Claimed_1_2 := comes_1 fun _ _ _ _ _ _ h hF => ⟨h.2.1, hF⟩
end Jvm.Pilot.@@N@@
namespace Jvm.Pilot.@@N@@
open Jvm Jvm.ClassFile Sem Op Lib Jvm.Free Jvm.Stand Jvm.Pilot.@@N@@.Jvm.D
/-! MADE BY PROGRAM (witnessworld.py) out of the Statement's table words and the real class files: 22 classes; the members and pool entries that the words name. The judged class is class 1, her method 1. -/
namespace start1
open Jvm.ClassFile
def u (s : String) : CpInfo := .utf8 (stringToUtf16 s)
/-- a pool by its gaps: so many unusable entries, then the entry; so many at the end -/
def gap : Nat → List CpInfo → List CpInfo
  | 0, r => r
  | n + 1, r => .unusable :: gap n r
def poolList (es : List (Nat × CpInfo)) (last : Nat) : List CpInfo := es.foldr (fun e r => gap e.1 (e.2 :: r)) (gap last [])
def pool (es : List (Nat × CpInfo)) (last : Nat) : Array CpInfo := ⟨poolList es last⟩
def fileOf (pool : Array CpInfo) (this : Nat) (attrs : Array Attribute := #[]) (ms : Array MethodInfo := #[]) (fl : Nat := 33) (sup : Nat := 0) (ifs : Array Nat := #[]) (fds : Array FieldInfo := #[]) : ClassFile where
  minorVersion := 0
  majorVersion := 65
  constantPool := pool
  accessFlags := fl
  thisClass := this
  superClass := sup
  interfaces := ifs
  fields := fds
  methods := ms
  attributes := attrs
def plain (name : String) (sup : Option ClassId) : Class where
  name := name
  kind := .ordinary
  loader := none
  accessFlags := 33
  super := sup
  interfaces := #[]
  cf := none
  fields := #[]
  methods := #[]
  instanceTypes := #[]
  staticTypes := #[]
  resolved := #[]
  callSites := []
  init := .initialized
  statics := none
  mirror := none

def pool0 : Array CpInfo := pool [(5, u "<init>"), (0, u "()V"), (1, .class_ 10), (1, u "java/lang/Object")] 113

def k0c0 : Code := { maxStack := 0, maxLocals := 1, code := object_method_1_code, exceptionTable := #[], attributes := #[] }
def k0m0 : Method := { name := "<init>", desc := "()V", sig := { parameters := [], returnType := none }, accessFlags := 1, code := some k0c0 }
/-- java/lang/Object -/
def k0 : Class := { plain "java/lang/Object" none with
  accessFlags := 33
  interfaces := #[]
  cf := some (fileOf pool0 8 #[] #[{ accessFlags := 1, nameIndex := 5, descriptorIndex := 6, attributes := #[] }] 33 0 #[] #[])
  fields := #[]
  methods := #[k0m0]
  instanceTypes := #[]
  staticTypes := #[]
  resolved := Array.replicate 124 none
  statics := none }

def pool1 : Array CpInfo := pool [(2, .class_ 4), (1, u "java/lang/Object"), (0, u "<init>"), (0, u "()V"), (0, .class_ 8), (0, u "com/example/ferret/ferret/engine/ExternalSolver"), (0, .methodref 10 11), (0, .class_ 12), (0, .nameAndType 13 14), (0, u "java/lang/String"), (0, u "valueOf"), (0, u "(C)Ljava/lang/String;"), (0, .methodref 7 16), (0, .nameAndType 5 17), (0, u "(Ljava/lang/String;)V"), (0, .methodref 7 19), (0, .nameAndType 20 21), (0, u "addClause"), (0, u "([I)V"), (0, .methodref 7 23), (0, .nameAndType 24 25), (0, u "newVariable"), (0, u "()I"), (0, .class_ 27), (0, u "com/example/ferret/ferret/engine/ExternalSolverNewVariablePinLaw"), (2, u "law"), (0, u "(II)Z")] 5

def k1m0 : Method := { name := "<init>", desc := "()V", sig := { parameters := [], returnType := none }, accessFlags := 1, code := none }
def k1c1 : Code := { maxStack := 6, maxLocals := 7, code := code, exceptionTable := #[], attributes := #[] }
def k1m1 : Method := { name := "law", desc := "(II)Z", sig := { parameters := [.int, .int], returnType := some .boolean }, accessFlags := 9, code := some k1c1 }
/-- com/example/ferret/ferret/engine/ExternalSolverNewVariablePinLaw -/
def k1 : Class := { plain "com/example/ferret/ferret/engine/ExternalSolverNewVariablePinLaw" (some 0) with
  accessFlags := 49
  interfaces := #[]
  cf := some (fileOf pool1 26 #[] #[{ accessFlags := 1, nameIndex := 5, descriptorIndex := 6, attributes := #[] }, { accessFlags := 9, nameIndex := 30, descriptorIndex := 31, attributes := #[] }] 49 2 #[] #[])
  fields := #[]
  methods := #[k1m0, k1m1]
  instanceTypes := #[]
  staticTypes := #[]
  resolved := Array.replicate 37 none
  statics := none }

def pool2 : Array CpInfo := pool [(1, .class_ 2), (0, u "com/example/ferret/ferret/engine/Cnf"), (0, .class_ 4), (0, u "java/lang/Object")] 6

/-- com/example/ferret/ferret/engine/Cnf -/
def k2 : Class := { plain "com/example/ferret/ferret/engine/Cnf" (some 0) with
  accessFlags := 1537
  interfaces := #[]
  cf := some (fileOf pool2 1 #[] #[] 1537 3 #[] #[])
  fields := #[]
  methods := #[]
  instanceTypes := #[]
  staticTypes := #[]
  resolved := Array.replicate 11 none
  statics := none }

def pool3 : Array CpInfo := pool [(8, .class_ 10), (1, u "com/example/ferret/ferret/engine/SatSolver"), (2, .class_ 14), (0, u "java/lang/Object"), (0, .class_ 16), (0, u "com/example/ferret/ferret/engine/Cnf")] 7

/-- com/example/ferret/ferret/engine/SatSolver -/
def k3 : Class := { plain "com/example/ferret/ferret/engine/SatSolver" (some 0) with
  accessFlags := 1537
  interfaces := #[2]
  cf := some (fileOf pool3 8 #[] #[] 1537 13 #[15] #[])
  fields := #[]
  methods := #[]
  instanceTypes := #[]
  staticTypes := #[]
  resolved := Array.replicate 24 none
  statics := none }

def pool4 : Array CpInfo := pool [(1, .methodref 2 3), (0, .class_ 4), (0, .nameAndType 5 6), (0, u "java/lang/Object"), (0, u "<init>"), (0, u "()V"), (0, .class_ 8), (0, u "com/example/ferret/ferret/engine/Dimacs"), (0, .methodref 7 3), (0, .fieldref 11 12), (0, .class_ 13), (0, .nameAndType 14 15), (0, u "com/example/ferret/ferret/engine/ExternalSolver"), (0, u "problem"), (0, u "Lcom/example/ferret/ferret/engine/Dimacs;"), (0, .string 17), (0, u "program"), (0, .methodref 19 20), (0, .class_ 21), (0, .nameAndType 22 23), (0, u "java/util/Objects"), (0, u "requireNonNull"), (0, u "(Ljava/lang/Object;Ljava/lang/String;)Ljava/lang/Object;"), (0, .class_ 25), (0, u "java/lang/String"), (0, .fieldref 11 27), (0, .nameAndType 17 28), (0, u "Ljava/lang/String;"), (0, .fieldref 11 30), (0, .nameAndType 31 32), (0, u "assignment"), (0, u "Ljava/util/BitSet;"), (0, .methodref 7 34), (0, .nameAndType 35 36), (0, u "newVariable"), (0, u "()I"), (0, .methodref 7 38), (0, .nameAndType 39 40), (0, u "addClause"), (0, u "([I)V"), (0, .class_ 42), (0, u "com/example/ferret/ferret/engine/ExternalSolver$Run"), (36, u "SATISFIABLE"), (1, .class_ 83), (1, u "com/example/ferret/ferret/engine/ExternalSolver$Answer"), (22, u "UNSATISFIABLE"), (34, u "(Ljava/lang/String;)V"), (261, .class_ 404), (0, u "com/example/ferret/ferret/engine/SatSolver"), (0, u "I"), (3, u "LAST_MESSAGE_MILLIS"), (0, u "J")] 78

def k4c0 : Code := { maxStack := 3, maxLocals := 2, code := prog_18_method_1_code, exceptionTable := #[], attributes := #[] }
def k4m0 : Method := { name := "<init>", desc := "(Ljava/lang/String;)V", sig := { parameters := [(.object "java/lang/String")], returnType := none }, accessFlags := 1, code := some k4c0 }
def k4c1 : Code := { maxStack := 2, maxLocals := 1, code := prog_18_method_2_code, exceptionTable := #[], attributes := #[] }
def k4m1 : Method := { name := "newVariable", desc := "()I", sig := { parameters := [], returnType := some .int }, accessFlags := 1, code := some k4c1 }
def k4c2 : Code := { maxStack := 2, maxLocals := 2, code := prog_18_method_3_code, exceptionTable := #[], attributes := #[] }
def k4m2 : Method := { name := "addClause", desc := "([I)V", sig := { parameters := [(.array .int)], returnType := none }, accessFlags := 129, code := some k4c2 }
/-- com/example/ferret/ferret/engine/ExternalSolver -/
def k4 : Class := { plain "com/example/ferret/ferret/engine/ExternalSolver" (some 0) with
  accessFlags := 49
  interfaces := #[3]
  cf := some (fileOf pool4 11 #[.nestMembers #[41, 81]] #[{ accessFlags := 1, nameIndex := 5, descriptorIndex := 141, attributes := #[] }, { accessFlags := 1, nameIndex := 35, descriptorIndex := 36, attributes := #[] }, { accessFlags := 129, nameIndex := 39, descriptorIndex := 40, attributes := #[] }] 49 2 #[403] #[{ accessFlags := 26, nameIndex := 79, descriptorIndex := 405, attributes := #[] }, { accessFlags := 26, nameIndex := 106, descriptorIndex := 405, attributes := #[] }, { accessFlags := 26, nameIndex := 409, descriptorIndex := 410, attributes := #[] }, { accessFlags := 18, nameIndex := 17, descriptorIndex := 28, attributes := #[] }, { accessFlags := 18, nameIndex := 14, descriptorIndex := 15, attributes := #[] }, { accessFlags := 2, nameIndex := 31, descriptorIndex := 32, attributes := #[] }])
  fields := #[{ name := "SATISFIABLE", type := .int, accessFlags := 26, slot := 0, constantValue := 0 }, { name := "UNSATISFIABLE", type := .int, accessFlags := 26, slot := 1, constantValue := 0 }, { name := "LAST_MESSAGE_MILLIS", type := .long, accessFlags := 26, slot := 2, constantValue := 0 }, { name := "program", type := (.object "java/lang/String"), accessFlags := 18, slot := 0, constantValue := 0 }, { name := "problem", type := (.object "com/example/ferret/ferret/engine/Dimacs"), accessFlags := 18, slot := 1, constantValue := 0 }, { name := "assignment", type := (.object "java/util/BitSet"), accessFlags := 2, slot := 2, constantValue := 0 }]
  methods := #[k4m0, k4m1, k4m2]
  instanceTypes := #[(.object "java/lang/String"), (.object "com/example/ferret/ferret/engine/Dimacs"), (.object "java/util/BitSet")]
  staticTypes := #[.int, .int, .long]
  resolved := Array.replicate 489 none
  statics := none }

def pool5 : Array CpInfo := pool [(1, .class_ 2), (0, u "java/io/Serializable"), (0, .class_ 4), (0, u "java/lang/Object")] 2

/-- java/io/Serializable -/
def k5 : Class := { plain "java/io/Serializable" (some 0) with
  accessFlags := 1537
  interfaces := #[]
  cf := some (fileOf pool5 1 #[] #[] 1537 3 #[] #[])
  fields := #[]
  methods := #[]
  instanceTypes := #[]
  staticTypes := #[]
  resolved := Array.replicate 7 none
  statics := none }

def pool6 : Array CpInfo := pool [(1, .class_ 2), (0, u "java/lang/Comparable"), (0, .class_ 4), (0, u "java/lang/Object")] 7

/-- java/lang/Comparable -/
def k6 : Class := { plain "java/lang/Comparable" (some 0) with
  accessFlags := 1537
  interfaces := #[]
  cf := some (fileOf pool6 1 #[] #[] 1537 3 #[] #[])
  fields := #[]
  methods := #[]
  instanceTypes := #[]
  staticTypes := #[]
  resolved := Array.replicate 12 none
  statics := none }

def pool7 : Array CpInfo := pool [(2, .class_ 4), (1, u "java/lang/CharSequence"), (42, .class_ 48), (0, u "java/lang/CharSequence$1CodePointIterator"), (10, .class_ 60), (0, u "java/lang/CharSequence$1CharIterator"), (5, .class_ 67), (0, u "java/lang/Object")] 63

/-- java/lang/CharSequence -/
def k7 : Class := { plain "java/lang/CharSequence" (some 0) with
  accessFlags := 1537
  interfaces := #[]
  cf := some (fileOf pool7 2 #[.nestMembers #[47, 59]] #[] 1537 66 #[] #[])
  fields := #[]
  methods := #[]
  instanceTypes := #[]
  staticTypes := #[]
  resolved := Array.replicate 131 none
  statics := none }

def pool8 : Array CpInfo := pool [(1, .class_ 2), (0, u "java/lang/constant/Constable"), (0, .class_ 4), (0, u "java/lang/Object")] 6

/-- java/lang/constant/Constable -/
def k8 : Class := { plain "java/lang/constant/Constable" (some 0) with
  accessFlags := 1537
  interfaces := #[]
  cf := some (fileOf pool8 1 #[] #[] 1537 3 #[] #[])
  fields := #[]
  methods := #[]
  instanceTypes := #[]
  staticTypes := #[]
  resolved := Array.replicate 11 none
  statics := none }

def pool9 : Array CpInfo := pool [(1, .class_ 2), (0, u "java/lang/constant/ConstantDesc"), (0, .class_ 4), (0, u "java/lang/Object")] 32

/-- java/lang/constant/ConstantDesc -/
def k9 : Class := { plain "java/lang/constant/ConstantDesc" (some 0) with
  accessFlags := 1537
  interfaces := #[]
  cf := some (fileOf pool9 1 #[] #[] 1537 3 #[] #[])
  fields := #[]
  methods := #[]
  instanceTypes := #[]
  staticTypes := #[]
  resolved := Array.replicate 37 none
  statics := none }

def pool10 : Array CpInfo := pool [(1, .methodref 2 3), (0, .class_ 4), (0, .nameAndType 5 6), (0, u "java/lang/Object"), (0, u "<init>"), (0, u "()V"), (2, .fieldref 10 11), (0, .class_ 12), (0, .nameAndType 13 14), (0, u "java/lang/String"), (0, u "value"), (0, u "[B"), (0, .fieldref 10 16), (0, .nameAndType 17 18), (0, u "coder"), (0, u "B"), (2, u "hash"), (0, u "I"), (2, u "hashIsZero"), (0, u "Z"), (11, .fieldref 10 39), (0, .nameAndType 40 26), (0, u "COMPACT_STRINGS"), (12, u "toBytes"), (53, .class_ 109), (1, u "java/lang/StringLatin1"), (99, .methodref 10 210), (0, .nameAndType 5 211), (0, u "([BB)V"), (157, u "(C)Z"), (205, .class_ 576), (0, u "java/lang/CharSequence"), (22, u "CASE_INSENSITIVE_ORDER"), (0, u "Ljava/util/Comparator;"), (181, u "valueOf"), (0, u "(C)Ljava/lang/String;"), (231, .methodref 107 1016), (0, .nameAndType 1017 369), (0, u "canEncode"), (0, .methodref 107 1019), (0, .nameAndType 53 1020), (0, u "(C)[B"), (80, u "serialPersistentFields"), (0, u "[Ljava/io/ObjectStreamField;"), (0, .class_ 1104), (0, u "java/lang/String$CaseInsensitiveComparator"), (1, .class_ 1107), (0, u "java/io/Serializable"), (0, .class_ 1109), (0, u "java/lang/Comparable"), (0, .class_ 1111), (0, u "java/lang/constant/Constable"), (0, .class_ 1113), (0, u "java/lang/constant/ConstantDesc"), (2, u "serialVersionUID"), (0, u "J"), (3, u "REPL"), (0, u "C"), (2, u "LATIN1"), (1, u "UTF16")] 323

def k10m0 : Method := { name := "<init>", desc := "()V", sig := { parameters := [], returnType := none }, accessFlags := 1, code := none }
def k10c1 : Code := { maxStack := 4, maxLocals := 1, code := jdk_42_method_139_code, exceptionTable := #[], attributes := #[] }
def k10m1 : Method := { name := "valueOf", desc := "(C)Ljava/lang/String;", sig := { parameters := [.char], returnType := some (.object "java/lang/String") }, accessFlags := 9, code := some k10c1 }
def k10c2 : Code := { maxStack := 2, maxLocals := 3, code := jdk_42_method_151_code, exceptionTable := #[], attributes := #[] }
def k10m2 : Method := { name := "<init>", desc := "([BB)V", sig := { parameters := [(.array .byte), .byte], returnType := none }, accessFlags := 0, code := some k10c2 }
/-- java/lang/String -/
def k10 : Class := { plain "java/lang/String" (some 0) with
  accessFlags := 49
  interfaces := #[5, 6, 7, 8, 9]
  cf := some (fileOf pool10 10 #[.nestMembers #[1103]] #[{ accessFlags := 1, nameIndex := 5, descriptorIndex := 6, attributes := #[] }, { accessFlags := 9, nameIndex := 782, descriptorIndex := 783, attributes := #[] }, { accessFlags := 0, nameIndex := 5, descriptorIndex := 211, attributes := #[] }] 49 2 #[1106, 1108, 575, 1110, 1112] #[{ accessFlags := 18, nameIndex := 13, descriptorIndex := 14, attributes := #[] }, { accessFlags := 18, nameIndex := 17, descriptorIndex := 18, attributes := #[] }, { accessFlags := 2, nameIndex := 21, descriptorIndex := 22, attributes := #[] }, { accessFlags := 2, nameIndex := 25, descriptorIndex := 26, attributes := #[] }, { accessFlags := 26, nameIndex := 1116, descriptorIndex := 1117, attributes := #[] }, { accessFlags := 24, nameIndex := 40, descriptorIndex := 26, attributes := #[] }, { accessFlags := 26, nameIndex := 1101, descriptorIndex := 1102, attributes := #[] }, { accessFlags := 26, nameIndex := 1121, descriptorIndex := 1122, attributes := #[] }, { accessFlags := 25, nameIndex := 599, descriptorIndex := 600, attributes := #[] }, { accessFlags := 24, nameIndex := 1125, descriptorIndex := 18, attributes := #[] }, { accessFlags := 24, nameIndex := 1127, descriptorIndex := 18, attributes := #[] }])
  fields := #[{ name := "value", type := (.array .byte), accessFlags := 18, slot := 0, constantValue := 0 }, { name := "coder", type := .byte, accessFlags := 18, slot := 1, constantValue := 0 }, { name := "hash", type := .int, accessFlags := 2, slot := 2, constantValue := 0 }, { name := "hashIsZero", type := .boolean, accessFlags := 2, slot := 3, constantValue := 0 }, { name := "serialVersionUID", type := .long, accessFlags := 26, slot := 0, constantValue := 0 }, { name := "COMPACT_STRINGS", type := .boolean, accessFlags := 24, slot := 1, constantValue := 0 }, { name := "serialPersistentFields", type := (.array (.object "java/io/ObjectStreamField")), accessFlags := 26, slot := 2, constantValue := 0 }, { name := "REPL", type := .char, accessFlags := 26, slot := 3, constantValue := 0 }, { name := "CASE_INSENSITIVE_ORDER", type := (.object "java/util/Comparator"), accessFlags := 25, slot := 4, constantValue := 0 }, { name := "LATIN1", type := .byte, accessFlags := 24, slot := 5, constantValue := 0 }, { name := "UTF16", type := .byte, accessFlags := 24, slot := 6, constantValue := 0 }]
  methods := #[k10m0, k10m1, k10m2]
  instanceTypes := #[(.array .byte), .byte, .int, .boolean]
  staticTypes := #[.long, .boolean, (.array (.object "java/io/ObjectStreamField")), .char, (.object "java/util/Comparator"), .byte, .byte]
  resolved := Array.replicate 1451 none
  statics := some 0 }

def pool11 : Array CpInfo := pool [(4, .class_ 6), (1, u "java/lang/Object"), (0, u "<init>"), (0, u "()V"), (5, .class_ 16), (1, u "java/lang/StringLatin1"), (73, u "canEncode"), (14, u "(C)Z"), (15, u "$assertionsDisabled"), (0, u "Z"), (98, .class_ 223), (1, u "java/lang/StringLatin1$LinesSpliterator"), (156, u "toBytes"), (1, u "(C)[B"), (7, .class_ 391), (0, u "java/lang/StringLatin1$CharsSpliterator")] 3

def k11m0 : Method := { name := "<init>", desc := "()V", sig := { parameters := [], returnType := none }, accessFlags := 0, code := none }
def k11c1 : Code := { maxStack := 2, maxLocals := 1, code := jdk_43_method_3_code, exceptionTable := #[], attributes := #[] }
def k11m1 : Method := { name := "canEncode", desc := "(C)Z", sig := { parameters := [.char], returnType := some .boolean }, accessFlags := 9, code := some k11c1 }
def k11c2 : Code := { maxStack := 4, maxLocals := 1, code := jdk_43_method_46_code, exceptionTable := #[], attributes := #[] }
def k11m2 : Method := { name := "toBytes", desc := "(C)[B", sig := { parameters := [.char], returnType := some (.array .byte) }, accessFlags := 9, code := some k11c2 }
/-- java/lang/StringLatin1 -/
def k11 : Class := { plain "java/lang/StringLatin1" (some 0) with
  accessFlags := 48
  interfaces := #[]
  cf := some (fileOf pool11 14 #[.nestMembers #[390, 221]] #[{ accessFlags := 0, nameIndex := 7, descriptorIndex := 8, attributes := #[] }, { accessFlags := 9, nameIndex := 90, descriptorIndex := 105, attributes := #[] }, { accessFlags := 9, nameIndex := 380, descriptorIndex := 382, attributes := #[] }] 48 4 #[] #[{ accessFlags := 4120, nameIndex := 121, descriptorIndex := 122, attributes := #[] }])
  fields := #[{ name := "$assertionsDisabled", type := .boolean, accessFlags := 4120, slot := 0, constantValue := 0 }]
  methods := #[k11m0, k11m1, k11m2]
  instanceTypes := #[]
  staticTypes := #[.boolean]
  resolved := Array.replicate 395 none
  statics := none }

def pool12 : Array CpInfo := pool [(3, .methodref 4 5), (0, .class_ 6), (0, .nameAndType 7 8), (0, u "java/lang/Object"), (0, u "<init>"), (0, u "()V"), (0, .fieldref 10 11), (0, .class_ 12), (0, .nameAndType 13 14), (0, u "com/example/ferret/ferret/engine/Dimacs"), (0, u "literals"), (0, u "[I"), (0, .fieldref 10 16), (0, .nameAndType 17 18), (0, u "variableCount"), (0, u "I"), (0, .methodref 10 20), (0, .nameAndType 21 22), (0, u "requireDeclared"), (0, u "(I[I)V"), (0, .fieldref 10 24), (0, .nameAndType 25 18), (0, u "literalSlots"), (0, .long 2147483639), (8, .long 2), (16, .methodref 53 54), (0, .class_ 55), (0, .nameAndType 56 57), (0, u "java/lang/System"), (0, u "arraycopy"), (0, u "(Ljava/lang/Object;ILjava/lang/Object;II)V"), (0, .fieldref 10 59), (0, .nameAndType 60 18), (0, u "clauseCount"), (30, .class_ 92), (0, u "com/example/ferret/ferret/engine/Cnf"), (0, u "MOST_SLOTS"), (4, u "newVariable"), (0, u "()I"), (0, u "addClause"), (0, u "([I)V")] 27

def k12c0 : Code := { maxStack := 2, maxLocals := 1, code := prog_11_method_1_code, exceptionTable := #[], attributes := #[] }
def k12m0 : Method := { name := "<init>", desc := "()V", sig := { parameters := [], returnType := none }, accessFlags := 1, code := some k12c0 }
def k12c1 : Code := { maxStack := 3, maxLocals := 1, code := prog_11_method_2_code, exceptionTable := #[], attributes := #[] }
def k12m1 : Method := { name := "newVariable", desc := "()I", sig := { parameters := [], returnType := some .int }, accessFlags := 1, code := some k12c1 }
def k12c2 : Code := { maxStack := 6, maxLocals := 6, code := prog_11_method_3_code, exceptionTable := #[], attributes := #[] }
def k12m2 : Method := { name := "addClause", desc := "([I)V", sig := { parameters := [(.array .int)], returnType := none }, accessFlags := 129, code := some k12c2 }
def k12c3 : Code := { maxStack := 4, maxLocals := 6, code := prog_11_method_7_code, exceptionTable := #[], attributes := #[] }
def k12m3 : Method := { name := "requireDeclared", desc := "(I[I)V", sig := { parameters := [.int, (.array .int)], returnType := none }, accessFlags := 136, code := some k12c3 }
/-- com/example/ferret/ferret/engine/Dimacs -/
def k12 : Class := { plain "com/example/ferret/ferret/engine/Dimacs" (some 0) with
  accessFlags := 49
  interfaces := #[2]
  cf := some (fileOf pool12 10 #[] #[{ accessFlags := 1, nameIndex := 7, descriptorIndex := 8, attributes := #[] }, { accessFlags := 1, nameIndex := 98, descriptorIndex := 99, attributes := #[] }, { accessFlags := 129, nameIndex := 100, descriptorIndex := 101, attributes := #[] }, { accessFlags := 136, nameIndex := 21, descriptorIndex := 22, attributes := #[] }] 49 4 #[91] #[{ accessFlags := 26, nameIndex := 93, descriptorIndex := 18, attributes := #[] }, { accessFlags := 2, nameIndex := 13, descriptorIndex := 14, attributes := #[] }, { accessFlags := 2, nameIndex := 25, descriptorIndex := 18, attributes := #[] }, { accessFlags := 2, nameIndex := 17, descriptorIndex := 18, attributes := #[] }, { accessFlags := 2, nameIndex := 60, descriptorIndex := 18, attributes := #[] }])
  fields := #[{ name := "MOST_SLOTS", type := .int, accessFlags := 26, slot := 0, constantValue := 0 }, { name := "literals", type := (.array .int), accessFlags := 2, slot := 0, constantValue := 0 }, { name := "literalSlots", type := .int, accessFlags := 2, slot := 1, constantValue := 0 }, { name := "variableCount", type := .int, accessFlags := 2, slot := 2, constantValue := 0 }, { name := "clauseCount", type := .int, accessFlags := 2, slot := 3, constantValue := 0 }]
  methods := #[k12m0, k12m1, k12m2, k12m3]
  instanceTypes := #[(.array .int), .int, .int, .int]
  staticTypes := #[.int]
  resolved := Array.replicate 129 none
  statics := none }

def pool13 : Array CpInfo := pool [(2, .class_ 4), (1, u "java/lang/Object"), (0, u "<init>"), (0, u "()V"), (35, .class_ 44), (1, u "java/util/Objects"), (0, u "requireNonNull"), (48, u "(Ljava/lang/Object;Ljava/lang/String;)Ljava/lang/Object;")] 89

def k13m0 : Method := { name := "<init>", desc := "()V", sig := { parameters := [], returnType := none }, accessFlags := 2, code := none }
def k13c1 : Code := { maxStack := 3, maxLocals := 2, code := jdk_31_method_11_code, exceptionTable := #[], attributes := #[] }
def k13m1 : Method := { name := "requireNonNull", desc := "(Ljava/lang/Object;Ljava/lang/String;)Ljava/lang/Object;", sig := { parameters := [(.object "java/lang/Object"), (.object "java/lang/String")], returnType := some (.object "java/lang/Object") }, accessFlags := 9, code := some k13c1 }
/-- java/util/Objects -/
def k13 : Class := { plain "java/util/Objects" (some 0) with
  accessFlags := 49
  interfaces := #[]
  cf := some (fileOf pool13 42 #[] #[{ accessFlags := 2, nameIndex := 5, descriptorIndex := 6, attributes := #[] }, { accessFlags := 9, nameIndex := 45, descriptorIndex := 94, attributes := #[] }] 49 2 #[] #[])
  fields := #[]
  methods := #[k13m0, k13m1]
  instanceTypes := #[]
  staticTypes := #[]
  resolved := Array.replicate 184 none
  statics := none }

def pool14 : Array CpInfo := pool [(2, .class_ 4), (1, u "java/lang/Object"), (0, u "<init>"), (0, u "()V"), (1, .class_ 10), (1, u "java/lang/System"), (0, u "allowSecurityManager"), (0, u "I"), (16, u "cons"), (0, u "Ljava/io/Console;"), (77, .class_ 110), (1, u "java/lang/System$CallersHolder"), (43, u "initialErrStream"), (0, u "Ljava/io/PrintStream;"), (19, u "security"), (0, u "Ljava/lang/SecurityManager;"), (31, .class_ 209), (0, u "java/lang/System$1"), (7, u "props"), (0, u "Ljava/util/Properties;"), (2, u "lineSeparator"), (0, u "Ljava/lang/String;"), (96, .class_ 321), (1, u "java/lang/System$LoggerFinder"), (5, .class_ 328), (0, u "java/lang/System$Logger"), (67, u "err"), (2, u "out"), (91, u "notSupportedJnuEncoding"), (15, u "in"), (17, u "initialIn"), (0, u "Ljava/io/InputStream;"), (35, u "bootLayer"), (0, u "Ljava/lang/ModuleLayer;"), (99, .class_ 664), (0, u "java/lang/System$2"), (9, u "NEVER"), (2, u "MAYBE"), (49, u "arraycopy"), (0, u "(Ljava/lang/Object;ILjava/lang/Object;II)V"), (72, .class_ 802), (0, u "java/lang/System$Logger$Level")] 31

def k14m0 : Method := { name := "<init>", desc := "()V", sig := { parameters := [], returnType := none }, accessFlags := 2, code := none }
def k14m1 : Method := { name := "arraycopy", desc := "(Ljava/lang/Object;ILjava/lang/Object;II)V", sig := { parameters := [(.object "java/lang/Object"), .int, (.object "java/lang/Object"), .int, .int], returnType := none }, accessFlags := 265, code := none }
/-- java/lang/System -/
def k14 : Class := { plain "java/lang/System" (some 0) with
  accessFlags := 49
  interfaces := #[]
  cf := some (fileOf pool14 8 #[.nestMembers #[319, 327, 801, 108, 663, 208]] #[{ accessFlags := 2, nameIndex := 5, descriptorIndex := 6, attributes := #[] }, { accessFlags := 265, nameIndex := 727, descriptorIndex := 728, attributes := #[] }] 49 2 #[] #[{ accessFlags := 25, nameIndex := 507, descriptorIndex := 526, attributes := #[] }, { accessFlags := 25, nameIndex := 399, descriptorIndex := 155, attributes := #[] }, { accessFlags := 25, nameIndex := 396, descriptorIndex := 155, attributes := #[] }, { accessFlags := 10, nameIndex := 525, descriptorIndex := 526, attributes := #[] }, { accessFlags := 26, nameIndex := 674, descriptorIndex := 12, attributes := #[] }, { accessFlags := 26, nameIndex := 677, descriptorIndex := 12, attributes := #[] }, { accessFlags := 10, nameIndex := 11, descriptorIndex := 12, attributes := #[] }, { accessFlags := 74, nameIndex := 175, descriptorIndex := 176, attributes := #[] }, { accessFlags := 10, nameIndex := 491, descriptorIndex := 222, attributes := #[] }, { accessFlags := 74, nameIndex := 29, descriptorIndex := 30, attributes := #[] }, { accessFlags := 74, nameIndex := 154, descriptorIndex := 155, attributes := #[] }, { accessFlags := 10, nameIndex := 217, descriptorIndex := 218, attributes := #[] }, { accessFlags := 10, nameIndex := 221, descriptorIndex := 222, attributes := #[] }, { accessFlags := 8, nameIndex := 562, descriptorIndex := 563, attributes := #[] }])
  fields := #[{ name := "in", type := (.object "java/io/InputStream"), accessFlags := 25, slot := 0, constantValue := 0 }, { name := "out", type := (.object "java/io/PrintStream"), accessFlags := 25, slot := 1, constantValue := 0 }, { name := "err", type := (.object "java/io/PrintStream"), accessFlags := 25, slot := 2, constantValue := 0 }, { name := "initialIn", type := (.object "java/io/InputStream"), accessFlags := 10, slot := 3, constantValue := 0 }, { name := "NEVER", type := .int, accessFlags := 26, slot := 4, constantValue := 0 }, { name := "MAYBE", type := .int, accessFlags := 26, slot := 5, constantValue := 0 }, { name := "allowSecurityManager", type := .int, accessFlags := 10, slot := 6, constantValue := 0 }, { name := "security", type := (.object "java/lang/SecurityManager"), accessFlags := 74, slot := 7, constantValue := 0 }, { name := "notSupportedJnuEncoding", type := (.object "java/lang/String"), accessFlags := 10, slot := 8, constantValue := 0 }, { name := "cons", type := (.object "java/io/Console"), accessFlags := 74, slot := 9, constantValue := 0 }, { name := "initialErrStream", type := (.object "java/io/PrintStream"), accessFlags := 74, slot := 10, constantValue := 0 }, { name := "props", type := (.object "java/util/Properties"), accessFlags := 10, slot := 11, constantValue := 0 }, { name := "lineSeparator", type := (.object "java/lang/String"), accessFlags := 10, slot := 12, constantValue := 0 }, { name := "bootLayer", type := (.object "java/lang/ModuleLayer"), accessFlags := 8, slot := 13, constantValue := 0 }]
  methods := #[k14m0, k14m1]
  instanceTypes := #[]
  staticTypes := #[(.object "java/io/InputStream"), (.object "java/io/PrintStream"), (.object "java/io/PrintStream"), (.object "java/io/InputStream"), .int, .int, .int, (.object "java/lang/SecurityManager"), (.object "java/lang/String"), (.object "java/io/Console"), (.object "java/io/PrintStream"), (.object "java/util/Properties"), (.object "java/lang/String"), (.object "java/lang/ModuleLayer")]
  resolved := Array.replicate 834 none
  statics := none }

def pool15 : Array CpInfo := pool [(2, .class_ 4), (1, u "java/lang/Object"), (0, u "<init>"), (0, u "()V"), (17, .class_ 26), (1, u "jdk/internal/util/Preconditions"), (28, .class_ 56), (0, u "jdk/internal/util/Preconditions$4"), (57, .class_ 115), (0, u "jdk/internal/util/Preconditions$1"), (7, u "SIOOBE_FORMATTER"), (0, u "Ljava/util/function/BiFunction;"), (0, .class_ 126), (0, u "jdk/internal/util/Preconditions$2"), (3, u "AIOOBE_FORMATTER"), (0, .class_ 132), (0, u "jdk/internal/util/Preconditions$3"), (3, u "IOOBE_FORMATTER")] 57

def k15m0 : Method := { name := "<init>", desc := "()V", sig := { parameters := [], returnType := none }, accessFlags := 1, code := none }
/-- jdk/internal/util/Preconditions -/
def k15 : Class := { plain "jdk/internal/util/Preconditions" (some 0) with
  accessFlags := 33
  interfaces := #[]
  cf := some (fileOf pool15 24 #[.nestMembers #[55, 131, 125, 114]] #[{ accessFlags := 1, nameIndex := 5, descriptorIndex := 6, attributes := #[] }] 33 2 #[] #[{ accessFlags := 25, nameIndex := 123, descriptorIndex := 124, attributes := #[] }, { accessFlags := 25, nameIndex := 130, descriptorIndex := 124, attributes := #[] }, { accessFlags := 25, nameIndex := 136, descriptorIndex := 124, attributes := #[] }])
  fields := #[{ name := "SIOOBE_FORMATTER", type := (.object "java/util/function/BiFunction"), accessFlags := 25, slot := 0, constantValue := 0 }, { name := "AIOOBE_FORMATTER", type := (.object "java/util/function/BiFunction"), accessFlags := 25, slot := 1, constantValue := 0 }, { name := "IOOBE_FORMATTER", type := (.object "java/util/function/BiFunction"), accessFlags := 25, slot := 2, constantValue := 0 }]
  methods := #[k15m0]
  instanceTypes := #[]
  staticTypes := #[(.object "java/util/function/BiFunction"), (.object "java/util/function/BiFunction"), (.object "java/util/function/BiFunction")]
  resolved := Array.replicate 194 none
  statics := some 1 }

def pool16 : Array CpInfo := pool [(9, u "<init>"), (6, .class_ 18), (1, u "java/lang/Object"), (0, u "()V"), (1, .class_ 23), (1, u "jdk/internal/util/ArraysSupport"), (0, u "LOG2_ARRAY_LONG_INDEX_SCALE"), (0, u "I"), (2, u "U"), (0, u "Ljdk/internal/misc/Unsafe;"), (8, u "BIG_ENDIAN"), (0, u "Z"), (8, u "LOG2_BYTE_BIT_SIZE"), (4, u "LOG2_ARRAY_INT_INDEX_SCALE"), (54, u "JLA"), (0, u "Ljdk/internal/access/JavaLangAccess;"), (11, u "LOG2_ARRAY_BOOLEAN_INDEX_SCALE"), (9, u "LOG2_ARRAY_BYTE_INDEX_SCALE"), (5, u "LOG2_ARRAY_CHAR_INDEX_SCALE"), (5, u "LOG2_ARRAY_SHORT_INDEX_SCALE"), (18, u "LOG2_ARRAY_FLOAT_INDEX_SCALE"), (24, u "LOG2_ARRAY_DOUBLE_INDEX_SCALE"), (89, u "T_BOOLEAN"), (2, u "T_CHAR"), (1, u "T_FLOAT"), (1, u "T_DOUBLE"), (1, u "T_BYTE"), (1, u "T_SHORT"), (1, u "T_INT"), (1, u "T_LONG"), (1, u "SOFT_MAX_ARRAY_LENGTH")] 83

def k16m0 : Method := { name := "<init>", desc := "()V", sig := { parameters := [], returnType := none }, accessFlags := 2, code := none }
/-- jdk/internal/util/ArraysSupport -/
def k16 : Class := { plain "jdk/internal/util/ArraysSupport" (some 0) with
  accessFlags := 33
  interfaces := #[]
  cf := some (fileOf pool16 21 #[] #[{ accessFlags := 2, nameIndex := 9, descriptorIndex := 19, attributes := #[] }] 33 16 #[] #[{ accessFlags := 24, nameIndex := 28, descriptorIndex := 29, attributes := #[] }, { accessFlags := 26, nameIndex := 38, descriptorIndex := 39, attributes := #[] }, { accessFlags := 25, nameIndex := 121, descriptorIndex := 25, attributes := #[] }, { accessFlags := 25, nameIndex := 131, descriptorIndex := 25, attributes := #[] }, { accessFlags := 25, nameIndex := 137, descriptorIndex := 25, attributes := #[] }, { accessFlags := 25, nameIndex := 143, descriptorIndex := 25, attributes := #[] }, { accessFlags := 25, nameIndex := 53, descriptorIndex := 25, attributes := #[] }, { accessFlags := 25, nameIndex := 24, descriptorIndex := 25, attributes := #[] }, { accessFlags := 25, nameIndex := 162, descriptorIndex := 25, attributes := #[] }, { accessFlags := 25, nameIndex := 187, descriptorIndex := 25, attributes := #[] }, { accessFlags := 26, nameIndex := 48, descriptorIndex := 25, attributes := #[] }, { accessFlags := 25, nameIndex := 277, descriptorIndex := 25, attributes := #[] }, { accessFlags := 25, nameIndex := 280, descriptorIndex := 25, attributes := #[] }, { accessFlags := 25, nameIndex := 282, descriptorIndex := 25, attributes := #[] }, { accessFlags := 25, nameIndex := 284, descriptorIndex := 25, attributes := #[] }, { accessFlags := 25, nameIndex := 286, descriptorIndex := 25, attributes := #[] }, { accessFlags := 25, nameIndex := 288, descriptorIndex := 25, attributes := #[] }, { accessFlags := 25, nameIndex := 290, descriptorIndex := 25, attributes := #[] }, { accessFlags := 25, nameIndex := 292, descriptorIndex := 25, attributes := #[] }, { accessFlags := 26, nameIndex := 108, descriptorIndex := 109, attributes := #[] }, { accessFlags := 25, nameIndex := 294, descriptorIndex := 25, attributes := #[] }])
  fields := #[{ name := "U", type := (.object "jdk/internal/misc/Unsafe"), accessFlags := 24, slot := 0, constantValue := 0 }, { name := "BIG_ENDIAN", type := .boolean, accessFlags := 26, slot := 1, constantValue := 0 }, { name := "LOG2_ARRAY_BOOLEAN_INDEX_SCALE", type := .int, accessFlags := 25, slot := 2, constantValue := 0 }, { name := "LOG2_ARRAY_BYTE_INDEX_SCALE", type := .int, accessFlags := 25, slot := 3, constantValue := 0 }, { name := "LOG2_ARRAY_CHAR_INDEX_SCALE", type := .int, accessFlags := 25, slot := 4, constantValue := 0 }, { name := "LOG2_ARRAY_SHORT_INDEX_SCALE", type := .int, accessFlags := 25, slot := 5, constantValue := 0 }, { name := "LOG2_ARRAY_INT_INDEX_SCALE", type := .int, accessFlags := 25, slot := 6, constantValue := 0 }, { name := "LOG2_ARRAY_LONG_INDEX_SCALE", type := .int, accessFlags := 25, slot := 7, constantValue := 0 }, { name := "LOG2_ARRAY_FLOAT_INDEX_SCALE", type := .int, accessFlags := 25, slot := 8, constantValue := 0 }, { name := "LOG2_ARRAY_DOUBLE_INDEX_SCALE", type := .int, accessFlags := 25, slot := 9, constantValue := 0 }, { name := "LOG2_BYTE_BIT_SIZE", type := .int, accessFlags := 26, slot := 10, constantValue := 0 }, { name := "T_BOOLEAN", type := .int, accessFlags := 25, slot := 11, constantValue := 0 }, { name := "T_CHAR", type := .int, accessFlags := 25, slot := 12, constantValue := 0 }, { name := "T_FLOAT", type := .int, accessFlags := 25, slot := 13, constantValue := 0 }, { name := "T_DOUBLE", type := .int, accessFlags := 25, slot := 14, constantValue := 0 }, { name := "T_BYTE", type := .int, accessFlags := 25, slot := 15, constantValue := 0 }, { name := "T_SHORT", type := .int, accessFlags := 25, slot := 16, constantValue := 0 }, { name := "T_INT", type := .int, accessFlags := 25, slot := 17, constantValue := 0 }, { name := "T_LONG", type := .int, accessFlags := 25, slot := 18, constantValue := 0 }, { name := "JLA", type := (.object "jdk/internal/access/JavaLangAccess"), accessFlags := 26, slot := 19, constantValue := 0 }, { name := "SOFT_MAX_ARRAY_LENGTH", type := .int, accessFlags := 25, slot := 20, constantValue := 0 }]
  methods := #[k16m0]
  instanceTypes := #[]
  staticTypes := #[(.object "jdk/internal/misc/Unsafe"), .boolean, .int, .int, .int, .int, .int, .int, .int, .int, .int, .int, .int, .int, .int, .int, .int, .int, .int, (.object "jdk/internal/access/JavaLangAccess"), .int]
  resolved := Array.replicate 378 none
  statics := none }

def pool17 : Array CpInfo := pool [(1, u "java/lang/Cloneable"), (0, .class_ 1), (0, u "java/lang/Object"), (0, .class_ 3)] 3

/-- java/lang/Cloneable -/
def k17 : Class := { plain "java/lang/Cloneable" (some 0) with
  accessFlags := 1537
  interfaces := #[]
  cf := some (fileOf pool17 2 #[] #[] 1537 4 #[] #[])
  fields := #[]
  methods := #[]
  instanceTypes := #[]
  staticTypes := #[]
  resolved := Array.replicate 8 none
  statics := none }

/-- the primitive byte -/
def k18 : Class := { plain "byte" none with kind := .primitive 'B', accessFlags := 0x411 }
/-- [B -/
def k19 : Class := { plain "[B" (some 0) with kind := .array 18 .byte, interfaces := #[17, 5], accessFlags := 1041 }

/-- the primitive int -/
def k20 : Class := { plain "int" none with kind := .primitive 'I', accessFlags := 0x411 }
/-- [I -/
def k21 : Class := { plain "[I" (some 0) with kind := .array 20 .int, interfaces := #[17, 5], accessFlags := 1041 }

def heap : Heap := #[{ cls := 10, slots := #[.long 0, .int 1, .null, .int 0, .null, .int 0, .int 0], vm := .statics 10 },
  { cls := 15, slots := #[.null, .null, .null], vm := .statics 15 }]
def classes : Array Class := #[k0, k1, k2, k3, k4, k5, k6, k7, k8, k9, k10, k11, k12, k13, k14, k15, k16, k17, k18, k19, k20, k21]
def interned : List (Array UInt16 × Addr) := []
def slotsUsed : Nat := 10
def theMethod : MethodId := ⟨1, 1⟩
def args0 : Array Value := #[.int 5, .int 2]
def aboutOver (below : List Frame) : State where
  vm := { classes := classes, interned := interned.toArray }
  heap := heap
  slotsUsed := slotsUsed
  threads := #[{ frames := .invoking theMethod args0 :: below }]
def below0 : List Frame := [.native { method := ⟨0, 0⟩, args := #[] }]
def about1 : State := aboutOver below0
def p0 : Program := .bare "" "" ""
def e0 : Env := launch0.env 0 0 0
theorem w_frames : about1.frames = Frame.invoking theMethod args0 :: below0 := rfl
set_option maxRecDepth 65536 in
theorem w_args : argsFit about1.vm theMethod args0 = true := by decide +kernel
set_option maxRecDepth 65536 in
theorem w_heap : heapFits about1 = true := by decide +kernel
set_option maxRecDepth 65536 in
theorem w_runnable : about1.curStatus? = some .runnable := by decide +kernel
set_option maxRecDepth 65536 in
theorem w_alone : about1.alone = true := by decide +kernel
set_option maxRecDepth 65536 in
theorem w_named : about1.methodNamed? x = some theMethod := by decide +kernel
set_option maxRecDepth 65536 in
theorem w_hears : about1.hears theMethod below0 = true := by decide +kernel
set_option maxRecDepth 65536 in
theorem w_ripe : about1.ripe theMethod args0 below0 = true := by decide +kernel
theorem w_running : about1.status = .running := rfl
set_option maxRecDepth 65536 in
theorem w_room : about1.hasRoom e0.platform room_1 = true :=
  launch0.hasRoom_least _ room_1 (by decide +kernel) (by decide +kernel) (by decide +kernel) (by decide +kernel) (by decide +kernel) (by decide +kernel)
theorem allAtoms_all (ts : List Jvm.Cond) (a : Array Jvm.Value) (st : Jvm.State) : (allAtoms ts).before a st = ts.all (fun c => c.before a st) := by
  induction ts with
  | nil => rfl
  | cons c t ih =>
    show (Jvm.Cond.and c (allAtoms t)).before a st = _
    rw [Jvm.Cond.before_and, ih, List.all_cons]
def words1 : List Jvm.Cond := Jvm.Cond.code x code maxLocals ret :: tables_1
/-- a 'code' word, met by the world's own term for the bytes: nothing is compared byte by byte -/
theorem code_word {y : MethodName} {bytes : ByteArray} {mx : Nat} {rt : Option FieldType} {a : Array Value} {s : State} {m : MethodId} {meth : Method} {c : Code} (h1 : s.methodNamed? y = some m) (h2 : s.vm.method? m = some meth) (h3 : meth.code = some c) (h4 : c.code = bytes)
    (h5 : (c.maxLocals == mx && c.exceptionTable.isEmpty && decide (c.maxStack ≤ mostOperands) && decide (meth.sig.returnType = rt) && !meth.locks && decide (parseMethodDescriptor y.desc = some meth.sig)) = true) : (Jvm.Cond.code y bytes mx rt).before a s = true := by
  simp only [Bool.and_eq_true, beq_iff_eq, Bool.not_eq_true', decide_eq_true_eq] at h5
  obtain ⟨⟨⟨⟨⟨g1, g2⟩, g3⟩, g4⟩, g5⟩, g6⟩ := h5
  simp [Cond.before, Cond.holds, Cond.value, h1, h2, h3, h4, g1, g2, g3, g4, g5, g6]
def isCode : Jvm.Cond → Bool
  | .code _ _ _ _ => true
  | _ => false
theorem all_split {L : List Jvm.Cond} {P : Jvm.Cond → Bool} (h1 : L.all (fun c => isCode c || P c) = true) (h2 : ∀ c ∈ L.filter isCode, P c = true) : L.all P = true := by
  refine List.all_eq_true.mpr fun c hc => ?_
  have h := List.all_eq_true.mp h1 c hc
  rcases Bool.eq_false_or_eq_true (isCode c) with hi | hi
  · exact h2 c (List.mem_filter.mpr ⟨hc, hi⟩)
  · simpa [hi] using h
set_option maxRecDepth 65536 in
theorem w_c0 : (Jvm.Cond.code x code maxLocals ret).before args0 about1 = true := code_word (m := ⟨1, 1⟩) (meth := k1m1) (c := k1c1) (by decide +kernel) rfl rfl rfl (by decide +kernel)
set_option maxRecDepth 65536 in
theorem w_c1 : (Jvm.Cond.code ({ cls := "java/lang/String", name := "valueOf", desc := "(C)Ljava/lang/String;" } : Jvm.MethodName) jdk_42_method_139_code (1 : Nat) (Option.some (Jvm.ClassFile.FieldType.object "java/lang/String"))).before args0 about1 = true := code_word (m := ⟨10, 1⟩) (meth := k10m1) (c := k10c1) (by decide +kernel) rfl rfl rfl (by decide +kernel)
set_option maxRecDepth 65536 in
theorem w_c2 : (Jvm.Cond.code ({ cls := "java/lang/StringLatin1", name := "canEncode", desc := "(C)Z" } : Jvm.MethodName) jdk_43_method_3_code (1 : Nat) (Option.some Jvm.ClassFile.FieldType.boolean)).before args0 about1 = true := code_word (m := ⟨11, 1⟩) (meth := k11m1) (c := k11c1) (by decide +kernel) rfl rfl rfl (by decide +kernel)
set_option maxRecDepth 65536 in
theorem w_c3 : (Jvm.Cond.code ({ cls := "java/lang/StringLatin1", name := "toBytes", desc := "(C)[B" } : Jvm.MethodName) jdk_43_method_46_code (1 : Nat) (Option.some (Jvm.ClassFile.FieldType.array Jvm.ClassFile.FieldType.byte))).before args0 about1 = true := code_word (m := ⟨11, 2⟩) (meth := k11m2) (c := k11c2) (by decide +kernel) rfl rfl rfl (by decide +kernel)
set_option maxRecDepth 65536 in
theorem w_c4 : (Jvm.Cond.code ({ cls := "java/lang/String", name := "<init>", desc := "([BB)V" } : Jvm.MethodName) jdk_42_method_151_code (3 : Nat) (Option.none : Option Jvm.ClassFile.FieldType)).before args0 about1 = true := code_word (m := ⟨10, 2⟩) (meth := k10m2) (c := k10c2) (by decide +kernel) rfl rfl rfl (by decide +kernel)
set_option maxRecDepth 65536 in
theorem w_c5 : (Jvm.Cond.code ({ cls := "java/lang/Object", name := "<init>", desc := "()V" } : Jvm.MethodName) object_method_1_code (1 : Nat) (Option.none : Option Jvm.ClassFile.FieldType)).before args0 about1 = true := code_word (m := ⟨0, 0⟩) (meth := k0m0) (c := k0c0) (by decide +kernel) rfl rfl rfl (by decide +kernel)
set_option maxRecDepth 65536 in
theorem w_c6 : (Jvm.Cond.code ({ cls := "com/example/ferret/ferret/engine/ExternalSolver", name := "<init>", desc := "(Ljava/lang/String;)V" } : Jvm.MethodName) prog_18_method_1_code (2 : Nat) (Option.none : Option Jvm.ClassFile.FieldType)).before args0 about1 = true := code_word (m := ⟨4, 0⟩) (meth := k4m0) (c := k4c0) (by decide +kernel) rfl rfl rfl (by decide +kernel)
set_option maxRecDepth 65536 in
theorem w_c7 : (Jvm.Cond.code ({ cls := "com/example/ferret/ferret/engine/Dimacs", name := "<init>", desc := "()V" } : Jvm.MethodName) prog_11_method_1_code (1 : Nat) (Option.none : Option Jvm.ClassFile.FieldType)).before args0 about1 = true := code_word (m := ⟨12, 0⟩) (meth := k12m0) (c := k12c0) (by decide +kernel) rfl rfl rfl (by decide +kernel)
set_option maxRecDepth 65536 in
theorem w_c8 : (Jvm.Cond.code ({ cls := "java/util/Objects", name := "requireNonNull", desc := "(Ljava/lang/Object;Ljava/lang/String;)Ljava/lang/Object;" } : Jvm.MethodName) jdk_31_method_11_code (2 : Nat) (Option.some (Jvm.ClassFile.FieldType.object "java/lang/Object"))).before args0 about1 = true := code_word (m := ⟨13, 1⟩) (meth := k13m1) (c := k13c1) (by decide +kernel) rfl rfl rfl (by decide +kernel)
set_option maxRecDepth 65536 in
theorem w_c9 : (Jvm.Cond.code ({ cls := "com/example/ferret/ferret/engine/ExternalSolver", name := "addClause", desc := "([I)V" } : Jvm.MethodName) prog_18_method_3_code (2 : Nat) (Option.none : Option Jvm.ClassFile.FieldType)).before args0 about1 = true := code_word (m := ⟨4, 2⟩) (meth := k4m2) (c := k4c2) (by decide +kernel) rfl rfl rfl (by decide +kernel)
set_option maxRecDepth 65536 in
theorem w_c10 : (Jvm.Cond.code ({ cls := "com/example/ferret/ferret/engine/Dimacs", name := "addClause", desc := "([I)V" } : Jvm.MethodName) prog_11_method_3_code (6 : Nat) (Option.none : Option Jvm.ClassFile.FieldType)).before args0 about1 = true := code_word (m := ⟨12, 2⟩) (meth := k12m2) (c := k12c2) (by decide +kernel) rfl rfl rfl (by decide +kernel)
set_option maxRecDepth 65536 in
theorem w_c11 : (Jvm.Cond.code ({ cls := "com/example/ferret/ferret/engine/Dimacs", name := "requireDeclared", desc := "(I[I)V" } : Jvm.MethodName) prog_11_method_7_code (6 : Nat) (Option.none : Option Jvm.ClassFile.FieldType)).before args0 about1 = true := code_word (m := ⟨12, 3⟩) (meth := k12m3) (c := k12c3) (by decide +kernel) rfl rfl rfl (by decide +kernel)
set_option maxRecDepth 65536 in
theorem w_c12 : (Jvm.Cond.code ({ cls := "com/example/ferret/ferret/engine/ExternalSolver", name := "newVariable", desc := "()I" } : Jvm.MethodName) prog_18_method_2_code (1 : Nat) (Option.some Jvm.ClassFile.FieldType.int)).before args0 about1 = true := code_word (m := ⟨4, 1⟩) (meth := k4m1) (c := k4c1) (by decide +kernel) rfl rfl rfl (by decide +kernel)
set_option maxRecDepth 65536 in
theorem w_c13 : (Jvm.Cond.code ({ cls := "com/example/ferret/ferret/engine/Dimacs", name := "newVariable", desc := "()I" } : Jvm.MethodName) prog_11_method_2_code (1 : Nat) (Option.some Jvm.ClassFile.FieldType.int)).before args0 about1 = true := code_word (m := ⟨12, 1⟩) (meth := k12m1) (c := k12c1) (by decide +kernel) rfl rfl rfl (by decide +kernel)
def codes1 : List Jvm.Cond := [Jvm.Cond.code x code maxLocals ret, Jvm.Cond.code ({ cls := "java/lang/String", name := "valueOf", desc := "(C)Ljava/lang/String;" } : Jvm.MethodName) jdk_42_method_139_code (1 : Nat) (Option.some (Jvm.ClassFile.FieldType.object "java/lang/String")), Jvm.Cond.code ({ cls := "java/lang/StringLatin1", name := "canEncode", desc := "(C)Z" } : Jvm.MethodName) jdk_43_method_3_code (1 : Nat) (Option.some Jvm.ClassFile.FieldType.boolean), Jvm.Cond.code ({ cls := "java/lang/StringLatin1", name := "toBytes", desc := "(C)[B" } : Jvm.MethodName) jdk_43_method_46_code (1 : Nat) (Option.some (Jvm.ClassFile.FieldType.array Jvm.ClassFile.FieldType.byte)), Jvm.Cond.code ({ cls := "java/lang/String", name := "<init>", desc := "([BB)V" } : Jvm.MethodName) jdk_42_method_151_code (3 : Nat) (Option.none : Option Jvm.ClassFile.FieldType), Jvm.Cond.code ({ cls := "java/lang/Object", name := "<init>", desc := "()V" } : Jvm.MethodName) object_method_1_code (1 : Nat) (Option.none : Option Jvm.ClassFile.FieldType), Jvm.Cond.code ({ cls := "com/example/ferret/ferret/engine/ExternalSolver", name := "<init>", desc := "(Ljava/lang/String;)V" } : Jvm.MethodName) prog_18_method_1_code (2 : Nat) (Option.none : Option Jvm.ClassFile.FieldType), Jvm.Cond.code ({ cls := "com/example/ferret/ferret/engine/Dimacs", name := "<init>", desc := "()V" } : Jvm.MethodName) prog_11_method_1_code (1 : Nat) (Option.none : Option Jvm.ClassFile.FieldType), Jvm.Cond.code ({ cls := "java/util/Objects", name := "requireNonNull", desc := "(Ljava/lang/Object;Ljava/lang/String;)Ljava/lang/Object;" } : Jvm.MethodName) jdk_31_method_11_code (2 : Nat) (Option.some (Jvm.ClassFile.FieldType.object "java/lang/Object")), Jvm.Cond.code ({ cls := "com/example/ferret/ferret/engine/ExternalSolver", name := "addClause", desc := "([I)V" } : Jvm.MethodName) prog_18_method_3_code (2 : Nat) (Option.none : Option Jvm.ClassFile.FieldType), Jvm.Cond.code ({ cls := "com/example/ferret/ferret/engine/Dimacs", name := "addClause", desc := "([I)V" } : Jvm.MethodName) prog_11_method_3_code (6 : Nat) (Option.none : Option Jvm.ClassFile.FieldType), Jvm.Cond.code ({ cls := "com/example/ferret/ferret/engine/Dimacs", name := "requireDeclared", desc := "(I[I)V" } : Jvm.MethodName) prog_11_method_7_code (6 : Nat) (Option.none : Option Jvm.ClassFile.FieldType), Jvm.Cond.code ({ cls := "com/example/ferret/ferret/engine/ExternalSolver", name := "newVariable", desc := "()I" } : Jvm.MethodName) prog_18_method_2_code (1 : Nat) (Option.some Jvm.ClassFile.FieldType.int), Jvm.Cond.code ({ cls := "com/example/ferret/ferret/engine/Dimacs", name := "newVariable", desc := "()I" } : Jvm.MethodName) prog_11_method_2_code (1 : Nat) (Option.some Jvm.ClassFile.FieldType.int)]
set_option maxRecDepth 65536 in
theorem codes_eq : words1.filter isCode = codes1 := rfl
theorem w_codes : ∀ c ∈ words1.filter isCode, c.before args0 about1 = true := by
  rw [codes_eq]
  intro c hc
  simp only [codes1, List.mem_cons, List.not_mem_nil, or_false] at hc
  rcases hc with rfl | rfl | rfl | rfl | rfl | rfl | rfl | rfl | rfl | rfl | rfl | rfl | rfl | rfl
  · exact w_c0
  · exact w_c1
  · exact w_c2
  · exact w_c3
  · exact w_c4
  · exact w_c5
  · exact w_c6
  · exact w_c7
  · exact w_c8
  · exact w_c9
  · exact w_c10
  · exact w_c11
  · exact w_c12
  · exact w_c13
set_option maxRecDepth 65536 in
theorem w_t1 : (words1.take 24).all (fun c => isCode c || c.before args0 about1) = true := by decide +kernel
set_option maxRecDepth 65536 in
theorem w_t2 : ((words1.drop 24).take 24).all (fun c => isCode c || c.before args0 about1) = true := by decide +kernel
set_option maxRecDepth 65536 in
theorem w_t3 : (((words1.drop 24).drop 24).take 24).all (fun c => isCode c || c.before args0 about1) = true := by decide +kernel
set_option maxRecDepth 65536 in
theorem w_t4 : (((words1.drop 24).drop 24).drop 24).all (fun c => isCode c || c.before args0 about1) = true := by decide +kernel
theorem w_tables : (allAtoms (Jvm.Cond.code x code maxLocals ret :: tables_1)).before args0 about1 = true := by
  rw [allAtoms_all]
  show words1.all (fun c => c.before args0 about1) = true
  refine all_split ?_ w_codes
  rw [← List.take_append_drop 24 words1, List.all_append, w_t1, ← List.take_append_drop 24 (words1.drop 24), List.all_append, w_t2, ← List.take_append_drop 24 ((words1.drop 24).drop 24), List.all_append, w_t3, w_t4]
  rfl
set_option maxRecDepth 65536 in
theorem w_rest : rest_1_c.before args0 about1 = true := by decide +kernel
set_option maxRecDepth 65536 in
theorem w_case : (Jvm.Cond.and given_1 narrow_1).before args0 about1 = true := by decide +kernel
theorem w_applies : (headSpec (Jvm.Cond.code x code maxLocals ret :: tables_1) room_1).applies x e0.platform about1 = true :=
  (Spec.applies_iff w_frames).mpr ⟨w_running, w_runnable, w_alone, w_named, w_hears, w_ripe, w_room, w_tables⟩
theorem atStart : AtStart classFile x code maxLocals ret World_1 tables_1 room_1 Calls_1 rest_1 Pre_1 launch0 p0 e0 about1 theMethod args0 below0 :=
  ⟨lists_1, trivial, launch0.admits_env _ _ _, launch0.least_env, fairChoices_fair.cas, fairChoices_fair.clock, w_frames, w_args, w_heap, w_applies, trivial, w_rest, w_case⟩
end start1
theorem witness_1 : WitnessClaimed_1 := ⟨start1.p0, start1.e0, start1.about1, start1.theMethod, start1.args0, start1.below0, start1.atStart⟩
end Jvm.Pilot.@@N@@
