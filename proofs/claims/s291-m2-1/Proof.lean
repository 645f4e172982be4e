import JvmDerived
import JvmDerived.Pilot.@@N@@Statement
import JvmDerived.Pilot.@@N@@Code
set_option linter.unusedVariables false
set_option linter.unusedSimpArgs false
namespace Jvm.GoKit
open Sem ClassFile Op Lib Jvm.Stand Jvm.Free Jvm.LawKit Jvm.RoadKit
/-- what is fixed of one walk, but for the method's own figures -/
abbrev Cx : Type := Program × Launch × Env × State × MethodId × Array Value × List Frame × Method × Code
abbrev Cx.p (E : Cx) : Program := E.1
abbrev Cx.l (E : Cx) : Launch := E.2.1
abbrev Cx.e (E : Cx) : Env := E.2.2.1
abbrev Cx.s (E : Cx) : State := E.2.2.2.1
abbrev Cx.m (E : Cx) : MethodId := E.2.2.2.2.1
abbrev Cx.args (E : Cx) : Array Value := E.2.2.2.2.2.1
abbrev Cx.below (E : Cx) : List Frame := E.2.2.2.2.2.2.1
abbrev Cx.meth (E : Cx) : Method := E.2.2.2.2.2.2.2.1
abbrev Cx.c (E : Cx) : Code := E.2.2.2.2.2.2.2.2
/-- a method's own figures: its name, bytes, locals, return type, room -/
abbrev Mt : Type := MethodName × ByteArray × Nat × Option FieldType × Room
abbrev Mt.y (k : Mt) : MethodName := k.1
abbrev Mt.bytes (k : Mt) : ByteArray := k.2.1
abbrev Mt.maxL (k : Mt) : Nat := k.2.2.1
abbrev Mt.ret (k : Mt) : Option FieldType := k.2.2.2.1
abbrev Mt.rm (k : Mt) : Room := k.2.2.2.2
/-- the run from S ends, as G says -/
def Go (E : Cx) (G : State → Outcome → Prop) (S : State) : Prop := ∃ s₂ o, Steps E.p.tables E.e E.below S s₂ ∧ s₂.status = .running ∧ Ended s₂ E.below o ∧ G s₂ o
abbrev Fm (E : Cx) (T : State) (pc : Nat) (Ls : Array Slot) (st : List Value) : State := T.setTop (mkF E.m pc Ls st)
theorem nb {a b : Nat} (h : Nat.ble a b = true) : a ≤ b := Nat.le_of_ble_eq_true h
theorem Go.step {E : Cx} {G : State → Outcome → Prop} {S S' : State} (g : Go E G S') (k : ∀ t, Steps E.p.tables E.e E.below S' t → Steps E.p.tables E.e E.below S t) : Go E G S := by
  obtain ⟨s₂, o, h1, h2⟩ := g
  exact ⟨s₂, o, k _ h1, h2⟩
theorem Go.mono {E : Cx} {G G' : State → Outcome → Prop} {S : State} (g : Go E G S) (k : ∀ t o, G t o → G' t o) : Go E G' S := by
  obtain ⟨s₂, o, h1, h2, h3, h4⟩ := g
  exact ⟨s₂, o, h1, h2, h3, k _ _ h4⟩
/-- where a walk stands: its tables' start Z, the heap h, what it has made at the most; what it wrote lies at or above n0 -/
def On (k : Mt) (Z : State) (n0 : Nat) (E : Cx) (T : State) (h : Heap) (cells slots : Nat) : Prop :=
  (E.p.tables.exec = Jvm.exec ∧ E.c.code = k.bytes ∧ E.c.maxLocals = k.maxL ∧ E.s.vm.findClass k.y.cls = some E.m.cls ∧ E.meth.sig.returnType = k.ret ∧ E.meth.locks = false ∧ Z.Warmed39 E.s.vm ∧ E.meth.name = k.y.name ∧ E.s.methodNamed? k.y = some E.m) ∧ T.heap = h ∧
  ∃ locs cells' slots', cells' ≤ cells ∧ slots' ≤ slots ∧ Fr n0 locs ∧ Stand E.p E.l E.e k.rm E.s E.m E.args E.below E.meth E.c T locs cells' slots'
section
variable {k : Mt} {Z : State} {n0 : Nat} {E : Cx} {T : State} {h : Heap} {cells slots : Nat} {G : State → Outcome → Prop} {a0 : Array Value} {pc pc' : Nat} {Ls : Array Slot} {st : List Value}
theorem On.exec (W : On k Z n0 E T h cells slots) : E.p.tables.exec = Jvm.exec := W.1.1
theorem On.bytes (W : On k Z n0 E T h cells slots) : E.c.code = k.bytes := W.1.2.1
theorem On.maxL (W : On k Z n0 E T h cells slots) : E.c.maxLocals = k.maxL := W.1.2.2.1
theorem On.own (W : On k Z n0 E T h cells slots) : E.s.vm.findClass k.y.cls = some E.m.cls := W.1.2.2.2.1
theorem On.ret (W : On k Z n0 E T h cells slots) : E.meth.sig.returnType = k.ret := W.1.2.2.2.2.1
theorem On.locks (W : On k Z n0 E T h cells slots) : E.meth.locks = false := W.1.2.2.2.2.2.1
theorem On.hZ (W : On k Z n0 E T h cells slots) : Z.Warmed39 E.s.vm := W.1.2.2.2.2.2.2.1
theorem On.nm (W : On k Z n0 E T h cells slots) : E.meth.name = k.y.name := W.1.2.2.2.2.2.2.2.1
theorem On.named (W : On k Z n0 E T h cells slots) : E.s.methodNamed? k.y = some E.m := W.1.2.2.2.2.2.2.2.2
theorem On.heap (W : On k Z n0 E T h cells slots) : T.heap = h := W.2.1
theorem On.here (W : On k Z n0 E T h cells slots) : At T E.m E.c E.below := by obtain ⟨-, -, _, _, _, -, -, -, X⟩ := W; exact X.here
theorem On.mono {cells' slots' : Nat} (W : On k Z n0 E T h cells slots) (h1 : cells ≤ cells') (h2 : slots ≤ slots') : On k Z n0 E T h cells' slots' := by
  obtain ⟨q, e, L, a, b, ha, hb, r⟩ := W; exact ⟨q, e, L, a, b, Nat.le_trans ha h1, Nat.le_trans hb h2, r⟩
theorem On.sub {h' : Heap} (W : On k Z n0 E T h cells slots) (q : h = h') : On k Z n0 E T h' cells slots := q ▸ W
theorem On.heq {h' : Heap} (W : On k Z n0 E T h cells slots) (q : h' = h) : On k Z n0 E T h' cells slots := q.symm ▸ W
theorem go_iloadN (W : On k Z n0 E T h cells slots) {i : Fin 4} {v : Int32} (hd : decode k.bytes pc = .ok (.iload_n i, 1)) (hl : Ls[i.val]? = some (.val (.int v))) (hp : pc + 1 = pc') (g : Go E G (Fm E T pc' Ls (.int v :: st))) : Go E G (Fm E T pc Ls st) := by
  subst hp; exact g.step fun t r => XS.iloadN W.here W.exec rfl (hb W.bytes hd) hl r
theorem go_iload (W : On k Z n0 E T h cells slots) {i : Nat} {v : Int32} (hd : decode k.bytes pc = .ok (.iload i, 2)) (hl : Ls[i]? = some (.val (.int v))) (hp : pc + 2 = pc') (g : Go E G (Fm E T pc' Ls (.int v :: st))) : Go E G (Fm E T pc Ls st) := by
  subst hp; exact g.step fun t r => XS.iload W.here W.exec rfl (hb W.bytes hd) hl r
theorem go_istoreN (W : On k Z n0 E T h cells slots) {i : Fin 4} {v : Int32} {l' : Array Slot} (hd : decode k.bytes pc = .ok (.istore_n i, 1)) (hl : storeLocals Ls i.val (.int v) = some l') (hp : pc + 1 = pc') (g : Go E G (Fm E T pc' l' st)) : Go E G (Fm E T pc Ls (.int v :: st)) := by
  subst hp; exact g.step fun t r => XS.istoreN W.here W.exec rfl (hb W.bytes hd) rfl hl r
theorem go_istore (W : On k Z n0 E T h cells slots) {i : Nat} {v : Int32} {l' : Array Slot} (hd : decode k.bytes pc = .ok (.istore i, 2)) (hl : storeLocals Ls i (.int v) = some l') (hp : pc + 2 = pc') (g : Go E G (Fm E T pc' l' st)) : Go E G (Fm E T pc Ls (.int v :: st)) := by
  subst hp; exact g.step fun t r => XS.istore W.here W.exec rfl (hb W.bytes hd) rfl hl r
theorem go_lloadN (W : On k Z n0 E T h cells slots) {i : Fin 4} {v : Int64} (hd : decode k.bytes pc = .ok (.lload_n i, 1)) (hl : Ls[i.val]? = some (.val (.long v))) (hp : pc + 1 = pc') (g : Go E G (Fm E T pc' Ls (.long v :: st))) : Go E G (Fm E T pc Ls st) := by
  subst hp; exact g.step fun t r => XS.lloadN W.here W.exec rfl (hb W.bytes hd) hl r
theorem go_lload (W : On k Z n0 E T h cells slots) {i : Nat} {v : Int64} (hd : decode k.bytes pc = .ok (.lload i, 2)) (hl : Ls[i]? = some (.val (.long v))) (hp : pc + 2 = pc') (g : Go E G (Fm E T pc' Ls (.long v :: st))) : Go E G (Fm E T pc Ls st) := by
  subst hp; exact g.step fun t r => XS.lload W.here W.exec rfl (hb W.bytes hd) hl r
theorem go_lstoreN (W : On k Z n0 E T h cells slots) {i : Fin 4} {v : Int64} {l' : Array Slot} (hd : decode k.bytes pc = .ok (.lstore_n i, 1)) (hl : storeLocals Ls i.val (.long v) = some l') (hp : pc + 1 = pc') (g : Go E G (Fm E T pc' l' st)) : Go E G (Fm E T pc Ls (.long v :: st)) := by
  subst hp; exact g.step fun t r => XS.lstoreN W.here W.exec rfl (hb W.bytes hd) rfl hl r
theorem go_lstore (W : On k Z n0 E T h cells slots) {i : Nat} {v : Int64} {l' : Array Slot} (hd : decode k.bytes pc = .ok (.lstore i, 2)) (hl : storeLocals Ls i (.long v) = some l') (hp : pc + 2 = pc') (g : Go E G (Fm E T pc' l' st)) : Go E G (Fm E T pc Ls (.long v :: st)) := by
  subst hp; exact g.step fun t r => XS.lstore W.here W.exec rfl (hb W.bytes hd) rfl hl r
theorem go_aloadN (W : On k Z n0 E T h cells slots) {i : Fin 4} {v : Value} (hd : decode k.bytes pc = .ok (.aload_n i, 1)) (hl : Ls[i.val]? = some (.val v)) (hv : v.isRef = true) (hp : pc + 1 = pc') (g : Go E G (Fm E T pc' Ls (v :: st))) : Go E G (Fm E T pc Ls st) := by
  subst hp; exact g.step fun t r => XS.aloadN W.here W.exec rfl (hb W.bytes hd) hl hv r
theorem go_aload (W : On k Z n0 E T h cells slots) {i : Nat} {v : Value} (hd : decode k.bytes pc = .ok (.aload i, 2)) (hl : Ls[i]? = some (.val v)) (hv : v.isRef = true) (hp : pc + 2 = pc') (g : Go E G (Fm E T pc' Ls (v :: st))) : Go E G (Fm E T pc Ls st) := by
  subst hp; exact g.step fun t r => XS.aload W.here W.exec rfl (hb W.bytes hd) hl hv r
theorem go_astoreN (W : On k Z n0 E T h cells slots) {i : Fin 4} {v : Value} {l' : Array Slot} (hd : decode k.bytes pc = .ok (.astore_n i, 1)) (hv : v.isRef = true) (hl : storeLocals Ls i.val v = some l') (hp : pc + 1 = pc') (g : Go E G (Fm E T pc' l' st)) : Go E G (Fm E T pc Ls (v :: st)) := by
  subst hp; exact g.step fun t r => XS.astoreN W.here W.exec rfl (hb W.bytes hd) rfl hv hl r
theorem go_astore (W : On k Z n0 E T h cells slots) {i : Nat} {v : Value} {l' : Array Slot} (hd : decode k.bytes pc = .ok (.astore i, 2)) (hv : v.isRef = true) (hl : storeLocals Ls i v = some l') (hp : pc + 2 = pc') (g : Go E G (Fm E T pc' l' st)) : Go E G (Fm E T pc Ls (v :: st)) := by
  subst hp; exact g.step fun t r => XS.astore W.here W.exec rfl (hb W.bytes hd) rfl hv hl r
theorem go_iconst (W : On k Z n0 E T h cells slots) {i : Int} {z : Int32} (hd : decode k.bytes pc = .ok (.iconst i, 1)) (hz : Int32.ofInt i = z) (hp : pc + 1 = pc') (g : Go E G (Fm E T pc' Ls (.int z :: st))) : Go E G (Fm E T pc Ls st) := by
  subst hp; exact g.step fun t r => XS.iconst W.here W.exec rfl (hb W.bytes hd) (hz.symm ▸ r)
theorem go_bipush (W : On k Z n0 E T h cells slots) {i : Int} {z : Int32} (hd : decode k.bytes pc = .ok (.bipush i, 2)) (hz : (Int8.ofInt i).toInt32 = z) (hp : pc + 2 = pc') (g : Go E G (Fm E T pc' Ls (.int z :: st))) : Go E G (Fm E T pc Ls st) := by
  subst hp; exact g.step fun t r => XS.bipush W.here W.exec rfl (hb W.bytes hd) (hz.symm ▸ r)
theorem go_sipush (W : On k Z n0 E T h cells slots) {i : Int} {z : Int32} (hd : decode k.bytes pc = .ok (.sipush i, 3)) (hz : (Int16.ofInt i).toInt32 = z) (hp : pc + 3 = pc') (g : Go E G (Fm E T pc' Ls (.int z :: st))) : Go E G (Fm E T pc Ls st) := by
  subst hp; exact g.step fun t r => XS.sipush W.here W.exec rfl (hb W.bytes hd) (hz.symm ▸ r)
theorem go_lconst (W : On k Z n0 E T h cells slots) {i : Fin 2} {z : Int64} (hd : decode k.bytes pc = .ok (.lconst i, 1)) (hz : Int64.ofNat i = z) (hp : pc + 1 = pc') (g : Go E G (Fm E T pc' Ls (.long z :: st))) : Go E G (Fm E T pc Ls st) := by
  subst hp; exact g.step fun t r => XS.lconst W.here W.exec rfl (hb W.bytes hd) (hz.symm ▸ r)
theorem go_aconstNull (W : On k Z n0 E T h cells slots)  (hd : decode k.bytes pc = .ok (.aconst_null, 1))  (hp : pc + 1 = pc') (g : Go E G (Fm E T pc' Ls (.null :: st))) : Go E G (Fm E T pc Ls st) := by
  subst hp; exact g.step fun t r => XS.aconstNull W.here W.exec rfl (hb W.bytes hd) r
theorem go_iadd (W : On k Z n0 E T h cells slots) {x y : Int32} (hd : decode k.bytes pc = .ok (.iadd, 1))  (hp : pc + 1 = pc') (g : Go E G (Fm E T pc' Ls (.int (x + y) :: st))) : Go E G (Fm E T pc Ls (.int y :: .int x :: st)) := by
  subst hp; exact g.step fun t r => XS.iadd W.here W.exec rfl (hb W.bytes hd) rfl r
theorem go_ladd (W : On k Z n0 E T h cells slots) {x y : Int64} (hd : decode k.bytes pc = .ok (.ladd, 1))  (hp : pc + 1 = pc') (g : Go E G (Fm E T pc' Ls (.long (x + y) :: st))) : Go E G (Fm E T pc Ls (.long y :: .long x :: st)) := by
  subst hp; exact g.step fun t r => XS.ladd W.here W.exec rfl (hb W.bytes hd) rfl r
theorem go_isub (W : On k Z n0 E T h cells slots) {x y : Int32} (hd : decode k.bytes pc = .ok (.isub, 1))  (hp : pc + 1 = pc') (g : Go E G (Fm E T pc' Ls (.int (x - y) :: st))) : Go E G (Fm E T pc Ls (.int y :: .int x :: st)) := by
  subst hp; exact g.step fun t r => XS.isub W.here W.exec rfl (hb W.bytes hd) rfl r
theorem go_lsub (W : On k Z n0 E T h cells slots) {x y : Int64} (hd : decode k.bytes pc = .ok (.lsub, 1))  (hp : pc + 1 = pc') (g : Go E G (Fm E T pc' Ls (.long (x - y) :: st))) : Go E G (Fm E T pc Ls (.long y :: .long x :: st)) := by
  subst hp; exact g.step fun t r => XS.lsub W.here W.exec rfl (hb W.bytes hd) rfl r
theorem go_imul (W : On k Z n0 E T h cells slots) {x y : Int32} (hd : decode k.bytes pc = .ok (.imul, 1))  (hp : pc + 1 = pc') (g : Go E G (Fm E T pc' Ls (.int (x * y) :: st))) : Go E G (Fm E T pc Ls (.int y :: .int x :: st)) := by
  subst hp; exact g.step fun t r => XS.imul W.here W.exec rfl (hb W.bytes hd) rfl r
theorem go_lmul (W : On k Z n0 E T h cells slots) {x y : Int64} (hd : decode k.bytes pc = .ok (.lmul, 1))  (hp : pc + 1 = pc') (g : Go E G (Fm E T pc' Ls (.long (x * y) :: st))) : Go E G (Fm E T pc Ls (.long y :: .long x :: st)) := by
  subst hp; exact g.step fun t r => XS.lmul W.here W.exec rfl (hb W.bytes hd) rfl r
theorem go_iand (W : On k Z n0 E T h cells slots) {x y : Int32} (hd : decode k.bytes pc = .ok (.iand, 1))  (hp : pc + 1 = pc') (g : Go E G (Fm E T pc' Ls (.int (x &&& y) :: st))) : Go E G (Fm E T pc Ls (.int y :: .int x :: st)) := by
  subst hp; exact g.step fun t r => XS.iand W.here W.exec rfl (hb W.bytes hd) rfl r
theorem go_land (W : On k Z n0 E T h cells slots) {x y : Int64} (hd : decode k.bytes pc = .ok (.land, 1))  (hp : pc + 1 = pc') (g : Go E G (Fm E T pc' Ls (.long (x &&& y) :: st))) : Go E G (Fm E T pc Ls (.long y :: .long x :: st)) := by
  subst hp; exact g.step fun t r => XS.land W.here W.exec rfl (hb W.bytes hd) rfl r
theorem go_ior (W : On k Z n0 E T h cells slots) {x y : Int32} (hd : decode k.bytes pc = .ok (.ior, 1))  (hp : pc + 1 = pc') (g : Go E G (Fm E T pc' Ls (.int (x ||| y) :: st))) : Go E G (Fm E T pc Ls (.int y :: .int x :: st)) := by
  subst hp; exact g.step fun t r => XS.ior W.here W.exec rfl (hb W.bytes hd) rfl r
theorem go_lor (W : On k Z n0 E T h cells slots) {x y : Int64} (hd : decode k.bytes pc = .ok (.lor, 1))  (hp : pc + 1 = pc') (g : Go E G (Fm E T pc' Ls (.long (x ||| y) :: st))) : Go E G (Fm E T pc Ls (.long y :: .long x :: st)) := by
  subst hp; exact g.step fun t r => XS.lor W.here W.exec rfl (hb W.bytes hd) rfl r
theorem go_ixor (W : On k Z n0 E T h cells slots) {x y : Int32} (hd : decode k.bytes pc = .ok (.ixor, 1))  (hp : pc + 1 = pc') (g : Go E G (Fm E T pc' Ls (.int (x ^^^ y) :: st))) : Go E G (Fm E T pc Ls (.int y :: .int x :: st)) := by
  subst hp; exact g.step fun t r => XS.ixor W.here W.exec rfl (hb W.bytes hd) rfl r
theorem go_lxor (W : On k Z n0 E T h cells slots) {x y : Int64} (hd : decode k.bytes pc = .ok (.lxor, 1))  (hp : pc + 1 = pc') (g : Go E G (Fm E T pc' Ls (.long (x ^^^ y) :: st))) : Go E G (Fm E T pc Ls (.long y :: .long x :: st)) := by
  subst hp; exact g.step fun t r => XS.lxor W.here W.exec rfl (hb W.bytes hd) rfl r
theorem go_iaddZ (W : On k Z n0 E T h cells slots) {x y z : Int32} (hd : decode k.bytes pc = .ok (.iadd, 1)) (hz : x + y = z) (hp : pc + 1 = pc') (g : Go E G (Fm E T pc' Ls (.int z :: st))) : Go E G (Fm E T pc Ls (.int y :: .int x :: st)) := by
  subst hp; exact g.step fun t r => XS.iadd W.here W.exec rfl (hb W.bytes hd) rfl (hz.symm ▸ r)
theorem go_isubZ (W : On k Z n0 E T h cells slots) {x y z : Int32} (hd : decode k.bytes pc = .ok (.isub, 1)) (hz : x - y = z) (hp : pc + 1 = pc') (g : Go E G (Fm E T pc' Ls (.int z :: st))) : Go E G (Fm E T pc Ls (.int y :: .int x :: st)) := by
  subst hp; exact g.step fun t r => XS.isub W.here W.exec rfl (hb W.bytes hd) rfl (hz.symm ▸ r)
theorem go_imulZ (W : On k Z n0 E T h cells slots) {x y z : Int32} (hd : decode k.bytes pc = .ok (.imul, 1)) (hz : x * y = z) (hp : pc + 1 = pc') (g : Go E G (Fm E T pc' Ls (.int z :: st))) : Go E G (Fm E T pc Ls (.int y :: .int x :: st)) := by
  subst hp; exact g.step fun t r => XS.imul W.here W.exec rfl (hb W.bytes hd) rfl (hz.symm ▸ r)
theorem go_iandZ (W : On k Z n0 E T h cells slots) {x y z : Int32} (hd : decode k.bytes pc = .ok (.iand, 1)) (hz : x &&& y = z) (hp : pc + 1 = pc') (g : Go E G (Fm E T pc' Ls (.int z :: st))) : Go E G (Fm E T pc Ls (.int y :: .int x :: st)) := by
  subst hp; exact g.step fun t r => XS.iand W.here W.exec rfl (hb W.bytes hd) rfl (hz.symm ▸ r)
theorem go_iorZ (W : On k Z n0 E T h cells slots) {x y z : Int32} (hd : decode k.bytes pc = .ok (.ior, 1)) (hz : x ||| y = z) (hp : pc + 1 = pc') (g : Go E G (Fm E T pc' Ls (.int z :: st))) : Go E G (Fm E T pc Ls (.int y :: .int x :: st)) := by
  subst hp; exact g.step fun t r => XS.ior W.here W.exec rfl (hb W.bytes hd) rfl (hz.symm ▸ r)
theorem go_ixorZ (W : On k Z n0 E T h cells slots) {x y z : Int32} (hd : decode k.bytes pc = .ok (.ixor, 1)) (hz : x ^^^ y = z) (hp : pc + 1 = pc') (g : Go E G (Fm E T pc' Ls (.int z :: st))) : Go E G (Fm E T pc Ls (.int y :: .int x :: st)) := by
  subst hp; exact g.step fun t r => XS.ixor W.here W.exec rfl (hb W.bytes hd) rfl (hz.symm ▸ r)
theorem go_idiv (W : On k Z n0 E T h cells slots) {x y : Int32} (hd : decode k.bytes pc = .ok (.idiv, 1)) (hy : y ≠ 0) (hp : pc + 1 = pc') (g : Go E G (Fm E T pc' Ls (.int (x / y) :: st))) : Go E G (Fm E T pc Ls (.int y :: .int x :: st)) := by
  subst hp; exact g.step fun t r => XS.idiv W.here W.exec rfl (hb W.bytes hd) rfl hy r
theorem go_irem (W : On k Z n0 E T h cells slots) {x y : Int32} (hd : decode k.bytes pc = .ok (.irem, 1)) (hy : y ≠ 0) (hp : pc + 1 = pc') (g : Go E G (Fm E T pc' Ls (.int (x % y) :: st))) : Go E G (Fm E T pc Ls (.int y :: .int x :: st)) := by
  obtain ⟨C, hh, _, _, _, -, -, -, X⟩ := W
  subst hp; exact g.step fun t r => iremM X C.1 rfl (hb C.2.1 hd) rfl hy r
theorem go_ineg (W : On k Z n0 E T h cells slots) {x : Int32} (hd : decode k.bytes pc = .ok (.ineg, 1))  (hp : pc + 1 = pc') (g : Go E G (Fm E T pc' Ls (.int (-x) :: st))) : Go E G (Fm E T pc Ls (.int x :: st)) := by
  subst hp; exact g.step fun t r => XS.ineg W.here W.exec rfl (hb W.bytes hd) rfl r
theorem go_ishl (W : On k Z n0 E T h cells slots) {x y : Int32} (hd : decode k.bytes pc = .ok (.ishl, 1))  (hp : pc + 1 = pc') (g : Go E G (Fm E T pc' Ls (.int (x <<< (y &&& 31)) :: st))) : Go E G (Fm E T pc Ls (.int y :: .int x :: st)) := by
  subst hp; exact g.step fun t r => XS.ishl W.here W.exec rfl (hb W.bytes hd) rfl r
theorem go_ishr (W : On k Z n0 E T h cells slots) {x y : Int32} (hd : decode k.bytes pc = .ok (.ishr, 1))  (hp : pc + 1 = pc') (g : Go E G (Fm E T pc' Ls (.int (x >>> (y &&& 31)) :: st))) : Go E G (Fm E T pc Ls (.int y :: .int x :: st)) := by
  subst hp; exact g.step fun t r => XS.ishr W.here W.exec rfl (hb W.bytes hd) rfl r
theorem go_iushr (W : On k Z n0 E T h cells slots) {x y : Int32} (hd : decode k.bytes pc = .ok (.iushr, 1))  (hp : pc + 1 = pc') (g : Go E G (Fm E T pc' Ls (.int ((x.toUInt32 >>> (y &&& 31).toUInt32).toInt32) :: st))) : Go E G (Fm E T pc Ls (.int y :: .int x :: st)) := by
  subst hp; exact g.step fun t r => XS.iushr W.here W.exec rfl (hb W.bytes hd) rfl r
theorem go_lshl (W : On k Z n0 E T h cells slots) {x : Int64} {y : Int32} (hd : decode k.bytes pc = .ok (.lshl, 1))  (hp : pc + 1 = pc') (g : Go E G (Fm E T pc' Ls (.long (x <<< (y &&& 0x3f).toInt64) :: st))) : Go E G (Fm E T pc Ls (.int y :: .long x :: st)) := by
  subst hp; exact g.step fun t r => XS.lshl W.here W.exec rfl (hb W.bytes hd) rfl r
theorem go_lshr (W : On k Z n0 E T h cells slots) {x : Int64} {y : Int32} (hd : decode k.bytes pc = .ok (.lshr, 1))  (hp : pc + 1 = pc') (g : Go E G (Fm E T pc' Ls (.long (x >>> (y &&& 0x3f).toInt64) :: st))) : Go E G (Fm E T pc Ls (.int y :: .long x :: st)) := by
  subst hp; exact g.step fun t r => XS.lshr W.here W.exec rfl (hb W.bytes hd) rfl r
theorem go_lushr (W : On k Z n0 E T h cells slots) {x : Int64} {y : Int32} (hd : decode k.bytes pc = .ok (.lushr, 1))  (hp : pc + 1 = pc') (g : Go E G (Fm E T pc' Ls (.long ((x.toUInt64 >>> (y &&& 0x3f).toInt64.toUInt64).toInt64) :: st))) : Go E G (Fm E T pc Ls (.int y :: .long x :: st)) := by
  subst hp; exact g.step fun t r => XS.lushr W.here W.exec rfl (hb W.bytes hd) rfl r
theorem go_i2l (W : On k Z n0 E T h cells slots) {x : Int32} (hd : decode k.bytes pc = .ok (.i2l, 1))  (hp : pc + 1 = pc') (g : Go E G (Fm E T pc' Ls (.long (x.toInt64) :: st))) : Go E G (Fm E T pc Ls (.int x :: st)) := by
  subst hp; exact g.step fun t r => XS.i2l W.here W.exec rfl (hb W.bytes hd) rfl r
theorem go_l2i (W : On k Z n0 E T h cells slots) {x : Int64} (hd : decode k.bytes pc = .ok (.l2i, 1))  (hp : pc + 1 = pc') (g : Go E G (Fm E T pc' Ls (.int (x.toInt32) :: st))) : Go E G (Fm E T pc Ls (.long x :: st)) := by
  subst hp; exact g.step fun t r => XS.l2i W.here W.exec rfl (hb W.bytes hd) rfl r
theorem go_i2b (W : On k Z n0 E T h cells slots) {x : Int32} (hd : decode k.bytes pc = .ok (.i2b, 1))  (hp : pc + 1 = pc') (g : Go E G (Fm E T pc' Ls (.int (x.toInt8.toInt32) :: st))) : Go E G (Fm E T pc Ls (.int x :: st)) := by
  subst hp; exact g.step fun t r => XS.i2b W.here W.exec rfl (hb W.bytes hd) rfl r
theorem go_i2s (W : On k Z n0 E T h cells slots) {x : Int32} (hd : decode k.bytes pc = .ok (.i2s, 1))  (hp : pc + 1 = pc') (g : Go E G (Fm E T pc' Ls (.int (x.toInt16.toInt32) :: st))) : Go E G (Fm E T pc Ls (.int x :: st)) := by
  subst hp; exact g.step fun t r => XS.i2s W.here W.exec rfl (hb W.bytes hd) rfl r
theorem go_i2c (W : On k Z n0 E T h cells slots) {x : Int32} (hd : decode k.bytes pc = .ok (.i2c, 1))  (hp : pc + 1 = pc') (g : Go E G (Fm E T pc' Ls (.int (x.toUInt32.toUInt16.toUInt32.toInt32) :: st))) : Go E G (Fm E T pc Ls (.int x :: st)) := by
  subst hp; exact g.step fun t r => XS.i2c W.here W.exec rfl (hb W.bytes hd) rfl r
theorem go_lneg (W : On k Z n0 E T h cells slots) {x : Int64} (hd : decode k.bytes pc = .ok (.lneg, 1))  (hp : pc + 1 = pc') (g : Go E G (Fm E T pc' Ls (.long (-x) :: st))) : Go E G (Fm E T pc Ls (.long x :: st)) := by
  subst hp; exact g.step fun t r => XS.lneg W.here W.exec rfl (hb W.bytes hd) rfl r
theorem go_lcmp (W : On k Z n0 E T h cells slots) {x y : Int64} (hd : decode k.bytes pc = .ok (.lcmp, 1))  (hp : pc + 1 = pc') (g : Go E G (Fm E T pc' Ls (.int (lcmpW x y) :: st))) : Go E G (Fm E T pc Ls (.long y :: .long x :: st)) := by
  subst hp; exact g.step fun t r => XS.lcmp W.here W.exec rfl (hb W.bytes hd) rfl r
theorem go_dup (W : On k Z n0 E T h cells slots) {x : Value} (hd : decode k.bytes pc = .ok (.dup, 1)) (hc : x.category = 1) (hp : pc + 1 = pc') (g : Go E G (Fm E T pc' Ls (x :: x :: st))) : Go E G (Fm E T pc Ls (x :: st)) := by
  subst hp; exact g.step fun t r => XS.dup W.here W.exec rfl (hb W.bytes hd) rfl hc r
theorem go_pop (W : On k Z n0 E T h cells slots) {x : Value} (hd : decode k.bytes pc = .ok (.pop, 1)) (hc : x.category = 1) (hp : pc + 1 = pc') (g : Go E G (Fm E T pc' Ls st)) : Go E G (Fm E T pc Ls (x :: st)) := by
  subst hp; exact g.step fun t r => XS.pop W.here W.exec rfl (hb W.bytes hd) rfl hc r
theorem go_dupX1 (W : On k Z n0 E T h cells slots) {x y : Value} (hd : decode k.bytes pc = .ok (.dup_x1, 1)) (hc : x.category = 1) (hc' : y.category = 1) (hp : pc + 1 = pc') (g : Go E G (Fm E T pc' Ls (x :: y :: x :: st))) : Go E G (Fm E T pc Ls (x :: y :: st)) := by
  subst hp; exact g.step fun t r => XS.dupX1 W.here W.exec rfl (hb W.bytes hd) rfl hc hc' r
theorem go_dup2 (W : On k Z n0 E T h cells slots) {x y : Value} (hd : decode k.bytes pc = .ok (.dup2, 1)) (hc : x.category = 1) (hc' : y.category = 1) (hp : pc + 1 = pc') (g : Go E G (Fm E T pc' Ls (x :: y :: x :: y :: st))) : Go E G (Fm E T pc Ls (x :: y :: st)) := by
  subst hp; exact g.step fun t r => XT.dup2 W.here W.exec rfl (hb W.bytes hd) rfl hc hc' r
theorem go_iinc (W : On k Z n0 E T h cells slots) {i : Nat} {cst : Int} {x z : Int32} {l' : Array Slot} (hd : decode k.bytes pc = .ok (.iinc i cst, 3)) (hl : Ls[i]? = some (.val (.int x))) (hz : x + Int32.ofInt cst = z) (hl' : storeLocals Ls i (.int z) = some l') (hp : pc + 3 = pc') (g : Go E G (Fm E T pc' l' st)) : Go E G (Fm E T pc Ls st) := by
  subst hp; exact g.step fun t r => XS.iinc W.here W.exec rfl (hb W.bytes hd) hl (hz.symm ▸ hl') r
theorem go_dupX2 (W : On k Z n0 E T h cells slots) {x y z : Value} (hd : decode k.bytes pc = .ok (.dup_x2, 1)) (h1 : x.category = 1) (h2 : y.category = 1) (h3 : z.category = 1) (hp : pc + 1 = pc') (g : Go E G (Fm E T pc' Ls (x :: y :: z :: x :: st))) : Go E G (Fm E T pc Ls (x :: y :: z :: st)) := by
  subst hp
  refine g.step fun t r => ?_
  have q := W.here; have hx := W.exec; have hd' := hb W.bytes hd
  show Steps E.p.tables E.e E.below (T.setTop { method := E.m, pc := pc, locals := Ls, stack := x :: y :: z :: st, locked := none }) t
  jvm_step q [q.top, hx, hd', h1, h2, h3]
  exact r
theorem go_goto (W : On k Z n0 E T h cells slots) {o : Int} (hd : decode k.bytes pc = .ok (.goto o, 3)) (ho : 0 ≤ (pc : Int) + o) (hp : ((pc : Int) + o).toNat = pc') (g : Go E G (Fm E T pc' Ls st)) : Go E G (Fm E T pc Ls st) := by
  exact g.step fun t r => XS.goto W.here W.exec rfl rfl (hb W.bytes hd) ho hp r
theorem go_icmp_lt (W : On k Z n0 E T h cells slots) {x y : Int32} {o : Int} {pt pf : Nat} (hd : decode k.bytes pc = .ok (.if_icmp .lt o, 3)) (ho : 0 ≤ (pc : Int) + o) (hp : ((pc : Int) + o).toNat = pt) (hq : pc + 3 = pf) (g1 : x < y → Go E G (Fm E T pt Ls st)) (g2 : ¬ x < y → Go E G (Fm E T pf Ls st)) : Go E G (Fm E T pc Ls (.int y :: .int x :: st)) := by
  subst hq
  by_cases q : x < y
  · exact (g1 q).step fun t r => XS.icmpYes W.here W.exec rfl rfl (hb W.bytes hd) rfl (tlt q).1 ho hp r
  · exact (g2 q).step fun t r => XS.icmpNo W.here W.exec rfl (hb W.bytes hd) rfl (flt q).1 r
theorem go_if_lt (W : On k Z n0 E T h cells slots) {x : Int32} {o : Int} {pt pf : Nat} (hd : decode k.bytes pc = .ok (.ifCond .lt o, 3)) (ho : 0 ≤ (pc : Int) + o) (hp : ((pc : Int) + o).toNat = pt) (hq : pc + 3 = pf) (g1 : x < 0 → Go E G (Fm E T pt Ls st)) (g2 : ¬ x < 0 → Go E G (Fm E T pf Ls st)) : Go E G (Fm E T pc Ls (.int x :: st)) := by
  subst hq
  by_cases q : x < 0
  · exact (g1 q).step fun t r => XS.ifYes W.here W.exec rfl rfl (hb W.bytes hd) rfl ((if0 _ _).trans (tlt q).1) ho hp r
  · exact (g2 q).step fun t r => XS.ifNo W.here W.exec rfl (hb W.bytes hd) rfl ((if0 _ _).trans (flt q).1) r
theorem go_icmp_ge (W : On k Z n0 E T h cells slots) {x y : Int32} {o : Int} {pt pf : Nat} (hd : decode k.bytes pc = .ok (.if_icmp .ge o, 3)) (ho : 0 ≤ (pc : Int) + o) (hp : ((pc : Int) + o).toNat = pt) (hq : pc + 3 = pf) (g1 : ¬ x < y → Go E G (Fm E T pt Ls st)) (g2 : x < y → Go E G (Fm E T pf Ls st)) : Go E G (Fm E T pc Ls (.int y :: .int x :: st)) := by
  subst hq
  by_cases q : ¬ x < y
  · exact (g1 q).step fun t r => XS.icmpYes W.here W.exec rfl rfl (hb W.bytes hd) rfl (flt q).2.1 ho hp r
  · replace q := Decidable.not_not.mp q; exact (g2 q).step fun t r => XS.icmpNo W.here W.exec rfl (hb W.bytes hd) rfl (tlt q).2.1 r
theorem go_if_ge (W : On k Z n0 E T h cells slots) {x : Int32} {o : Int} {pt pf : Nat} (hd : decode k.bytes pc = .ok (.ifCond .ge o, 3)) (ho : 0 ≤ (pc : Int) + o) (hp : ((pc : Int) + o).toNat = pt) (hq : pc + 3 = pf) (g1 : ¬ x < 0 → Go E G (Fm E T pt Ls st)) (g2 : x < 0 → Go E G (Fm E T pf Ls st)) : Go E G (Fm E T pc Ls (.int x :: st)) := by
  subst hq
  by_cases q : ¬ x < 0
  · exact (g1 q).step fun t r => XS.ifYes W.here W.exec rfl rfl (hb W.bytes hd) rfl ((if0 _ _).trans (flt q).2.1) ho hp r
  · replace q := Decidable.not_not.mp q; exact (g2 q).step fun t r => XS.ifNo W.here W.exec rfl (hb W.bytes hd) rfl ((if0 _ _).trans (tlt q).2.1) r
theorem go_icmp_gt (W : On k Z n0 E T h cells slots) {x y : Int32} {o : Int} {pt pf : Nat} (hd : decode k.bytes pc = .ok (.if_icmp .gt o, 3)) (ho : 0 ≤ (pc : Int) + o) (hp : ((pc : Int) + o).toNat = pt) (hq : pc + 3 = pf) (g1 : y < x → Go E G (Fm E T pt Ls st)) (g2 : ¬ y < x → Go E G (Fm E T pf Ls st)) : Go E G (Fm E T pc Ls (.int y :: .int x :: st)) := by
  subst hq
  by_cases q : y < x
  · exact (g1 q).step fun t r => XS.icmpYes W.here W.exec rfl rfl (hb W.bytes hd) rfl (tlt q).2.2.1 ho hp r
  · exact (g2 q).step fun t r => XS.icmpNo W.here W.exec rfl (hb W.bytes hd) rfl (flt q).2.2.1 r
theorem go_if_gt (W : On k Z n0 E T h cells slots) {x : Int32} {o : Int} {pt pf : Nat} (hd : decode k.bytes pc = .ok (.ifCond .gt o, 3)) (ho : 0 ≤ (pc : Int) + o) (hp : ((pc : Int) + o).toNat = pt) (hq : pc + 3 = pf) (g1 : 0 < x → Go E G (Fm E T pt Ls st)) (g2 : ¬ 0 < x → Go E G (Fm E T pf Ls st)) : Go E G (Fm E T pc Ls (.int x :: st)) := by
  subst hq
  by_cases q : 0 < x
  · exact (g1 q).step fun t r => XS.ifYes W.here W.exec rfl rfl (hb W.bytes hd) rfl ((if0 _ _).trans (tlt q).2.2.1) ho hp r
  · exact (g2 q).step fun t r => XS.ifNo W.here W.exec rfl (hb W.bytes hd) rfl ((if0 _ _).trans (flt q).2.2.1) r
theorem go_icmp_le (W : On k Z n0 E T h cells slots) {x y : Int32} {o : Int} {pt pf : Nat} (hd : decode k.bytes pc = .ok (.if_icmp .le o, 3)) (ho : 0 ≤ (pc : Int) + o) (hp : ((pc : Int) + o).toNat = pt) (hq : pc + 3 = pf) (g1 : ¬ y < x → Go E G (Fm E T pt Ls st)) (g2 : y < x → Go E G (Fm E T pf Ls st)) : Go E G (Fm E T pc Ls (.int y :: .int x :: st)) := by
  subst hq
  by_cases q : ¬ y < x
  · exact (g1 q).step fun t r => XS.icmpYes W.here W.exec rfl rfl (hb W.bytes hd) rfl (flt q).2.2.2 ho hp r
  · replace q := Decidable.not_not.mp q; exact (g2 q).step fun t r => XS.icmpNo W.here W.exec rfl (hb W.bytes hd) rfl (tlt q).2.2.2 r
theorem go_if_le (W : On k Z n0 E T h cells slots) {x : Int32} {o : Int} {pt pf : Nat} (hd : decode k.bytes pc = .ok (.ifCond .le o, 3)) (ho : 0 ≤ (pc : Int) + o) (hp : ((pc : Int) + o).toNat = pt) (hq : pc + 3 = pf) (g1 : ¬ 0 < x → Go E G (Fm E T pt Ls st)) (g2 : 0 < x → Go E G (Fm E T pf Ls st)) : Go E G (Fm E T pc Ls (.int x :: st)) := by
  subst hq
  by_cases q : ¬ 0 < x
  · exact (g1 q).step fun t r => XS.ifYes W.here W.exec rfl rfl (hb W.bytes hd) rfl ((if0 _ _).trans (flt q).2.2.2) ho hp r
  · replace q := Decidable.not_not.mp q; exact (g2 q).step fun t r => XS.ifNo W.here W.exec rfl (hb W.bytes hd) rfl ((if0 _ _).trans (tlt q).2.2.2) r
theorem go_icmp_eq (W : On k Z n0 E T h cells slots) {x y : Int32} {o : Int} {pt pf : Nat} (hd : decode k.bytes pc = .ok (.if_icmp .eq o, 3)) (ho : 0 ≤ (pc : Int) + o) (hp : ((pc : Int) + o).toNat = pt) (hq : pc + 3 = pf) (g1 : x = y → Go E G (Fm E T pt Ls st)) (g2 : ¬ x = y → Go E G (Fm E T pf Ls st)) : Go E G (Fm E T pc Ls (.int y :: .int x :: st)) := by
  subst hq
  by_cases q : x = y
  · exact (g1 q).step fun t r => XS.icmpYes W.here W.exec rfl rfl (hb W.bytes hd) rfl (teq q).1 ho hp r
  · exact (g2 q).step fun t r => XS.icmpNo W.here W.exec rfl (hb W.bytes hd) rfl (feq q).1 r
theorem go_if_eq (W : On k Z n0 E T h cells slots) {x : Int32} {o : Int} {pt pf : Nat} (hd : decode k.bytes pc = .ok (.ifCond .eq o, 3)) (ho : 0 ≤ (pc : Int) + o) (hp : ((pc : Int) + o).toNat = pt) (hq : pc + 3 = pf) (g1 : x = 0 → Go E G (Fm E T pt Ls st)) (g2 : ¬ x = 0 → Go E G (Fm E T pf Ls st)) : Go E G (Fm E T pc Ls (.int x :: st)) := by
  subst hq
  by_cases q : x = 0
  · exact (g1 q).step fun t r => XS.ifYes W.here W.exec rfl rfl (hb W.bytes hd) rfl ((if0 _ _).trans (teq q).1) ho hp r
  · exact (g2 q).step fun t r => XS.ifNo W.here W.exec rfl (hb W.bytes hd) rfl ((if0 _ _).trans (feq q).1) r
theorem go_icmp_ne (W : On k Z n0 E T h cells slots) {x y : Int32} {o : Int} {pt pf : Nat} (hd : decode k.bytes pc = .ok (.if_icmp .ne o, 3)) (ho : 0 ≤ (pc : Int) + o) (hp : ((pc : Int) + o).toNat = pt) (hq : pc + 3 = pf) (g1 : ¬ x = y → Go E G (Fm E T pt Ls st)) (g2 : x = y → Go E G (Fm E T pf Ls st)) : Go E G (Fm E T pc Ls (.int y :: .int x :: st)) := by
  subst hq
  by_cases q : ¬ x = y
  · exact (g1 q).step fun t r => XS.icmpYes W.here W.exec rfl rfl (hb W.bytes hd) rfl (feq q).2 ho hp r
  · replace q := Decidable.not_not.mp q; exact (g2 q).step fun t r => XS.icmpNo W.here W.exec rfl (hb W.bytes hd) rfl (teq q).2 r
theorem go_if_ne (W : On k Z n0 E T h cells slots) {x : Int32} {o : Int} {pt pf : Nat} (hd : decode k.bytes pc = .ok (.ifCond .ne o, 3)) (ho : 0 ≤ (pc : Int) + o) (hp : ((pc : Int) + o).toNat = pt) (hq : pc + 3 = pf) (g1 : ¬ x = 0 → Go E G (Fm E T pt Ls st)) (g2 : x = 0 → Go E G (Fm E T pf Ls st)) : Go E G (Fm E T pc Ls (.int x :: st)) := by
  subst hq
  by_cases q : ¬ x = 0
  · exact (g1 q).step fun t r => XS.ifYes W.here W.exec rfl rfl (hb W.bytes hd) rfl ((if0 _ _).trans (feq q).2) ho hp r
  · replace q := Decidable.not_not.mp q; exact (g2 q).step fun t r => XS.ifNo W.here W.exec rfl (hb W.bytes hd) rfl ((if0 _ _).trans (teq q).2) r
theorem go_acmp_eq (W : On k Z n0 E T h cells slots) {x y : Value} {o : Int} {pt pf : Nat} (hd : decode k.bytes pc = .ok (.if_acmp .eq o, 3)) (h1 : x.isRef = true) (h2 : y.isRef = true) (ho : 0 ≤ (pc : Int) + o) (hp : ((pc : Int) + o).toNat = pt) (hq : pc + 3 = pf) (g1 : x = y → Go E G (Fm E T pt Ls st)) (g2 : ¬ x = y → Go E G (Fm E T pf Ls st)) : Go E G (Fm E T pc Ls (y :: x :: st)) := by
  obtain ⟨C, hh, _, _, _, -, -, -, X⟩ := W
  by_cases q : x = y
  · exact (g1 q).step fun t r => Jvm.RoadKit.acmp (g := mkF E.m pc Ls (y :: x :: st)) X C.1 rfl h1 h2 (pc0 := pc) (pc' := pt) (same := true) rfl (hb C.2.1 hd) rfl (decide_eq_true q) ho hp.symm r
  · exact (g2 q).step fun t r => Jvm.RoadKit.acmp (g := mkF E.m pc Ls (y :: x :: st)) X C.1 rfl h1 h2 (pc0 := pc) (pc' := pf) (same := false) rfl (hb C.2.1 hd) rfl (decide_eq_false q) ho hq.symm r
theorem go_acmp_ne (W : On k Z n0 E T h cells slots) {x y : Value} {o : Int} {pt pf : Nat} (hd : decode k.bytes pc = .ok (.if_acmp .ne o, 3)) (h1 : x.isRef = true) (h2 : y.isRef = true) (ho : 0 ≤ (pc : Int) + o) (hp : ((pc : Int) + o).toNat = pt) (hq : pc + 3 = pf) (g1 : ¬ x = y → Go E G (Fm E T pt Ls st)) (g2 : x = y → Go E G (Fm E T pf Ls st)) : Go E G (Fm E T pc Ls (y :: x :: st)) := by
  obtain ⟨C, hh, _, _, _, -, -, -, X⟩ := W
  by_cases q : x = y
  · exact (g2 q).step fun t r => Jvm.RoadKit.acmp (g := mkF E.m pc Ls (y :: x :: st)) X C.1 rfl h1 h2 (pc0 := pc) (pc' := pf) (same := true) rfl (hb C.2.1 hd) rfl (decide_eq_true q) ho hq.symm r
  · exact (g1 q).step fun t r => Jvm.RoadKit.acmp (g := mkF E.m pc Ls (y :: x :: st)) X C.1 rfl h1 h2 (pc0 := pc) (pc' := pt) (same := false) rfl (hb C.2.1 hd) rfl (decide_eq_false q) ho hp.symm r
theorem go_ifnull_null (W : On k Z n0 E T h cells slots) {o : Int} (hd : decode k.bytes pc = .ok (.ifnull o, 3)) (ho : 0 ≤ (pc : Int) + o) (hp : ((pc : Int) + o).toNat = pc') (g : Go E G (Fm E T pc' Ls st)) : Go E G (Fm E T pc Ls (.null :: st)) :=
  g.step fun t r => XS.ifnullYes W.here W.exec rfl rfl (hb W.bytes hd) rfl ho hp r
theorem go_ifnull_ref (W : On k Z n0 E T h cells slots) {o : Int} {b : Addr} (hd : decode k.bytes pc = .ok (.ifnull o, 3)) (hp : pc + 3 = pc') (g : Go E G (Fm E T pc' Ls st)) : Go E G (Fm E T pc Ls (.ref b :: st)) := by
  subst hp; exact g.step fun t r => XS.ifnullNo W.here W.exec rfl (hb W.bytes hd) rfl r
theorem go_ifnonnull_ref (W : On k Z n0 E T h cells slots) {o : Int} {b : Addr} (hd : decode k.bytes pc = .ok (.ifnonnull o, 3)) (ho : 0 ≤ (pc : Int) + o) (hp : ((pc : Int) + o).toNat = pc') (g : Go E G (Fm E T pc' Ls st)) : Go E G (Fm E T pc Ls (.ref b :: st)) :=
  g.step fun t r => XS.ifnonnullYes W.here W.exec rfl rfl (hb W.bytes hd) rfl ho hp r
theorem go_ifnonnull_null (W : On k Z n0 E T h cells slots) {o : Int} (hd : decode k.bytes pc = .ok (.ifnonnull o, 3)) (hp : pc + 3 = pc') (g : Go E G (Fm E T pc' Ls st)) : Go E G (Fm E T pc Ls (.null :: st)) := by
  subst hp; exact g.step fun t r => XS.ifnonnullNo W.here W.exec rfl (hb W.bytes hd) rfl r
theorem go_tswIn (W : On k Z n0 E T h cells slots) {dflt low high : Int} {offs : Array Int} {len : Nat} {o : Int} {i : Int32} (hd : decode k.bytes pc = .ok (.tableswitch dflt low high offs, len)) (hin : ¬ (i.toInt < low ∨ i.toInt > high)) (hoff : offs[(i.toInt - low).toNat]? = some o) (ho : 0 ≤ (pc : Int) + o) (hp : ((pc : Int) + o).toNat = pc') (g : Go E G (Fm E T pc' Ls st)) : Go E G (Fm E T pc Ls (.int i :: st)) :=
  g.step fun t r => XS.tswIn W.here W.exec rfl rfl (hb W.bytes hd) rfl hin hoff ho hp r
theorem go_tswOut (W : On k Z n0 E T h cells slots) {dflt low high : Int} {offs : Array Int} {len : Nat} {i : Int32} (hd : decode k.bytes pc = .ok (.tableswitch dflt low high offs, len)) (hout : i.toInt < low ∨ i.toInt > high) (ho : 0 ≤ (pc : Int) + dflt) (hp : ((pc : Int) + dflt).toNat = pc') (g : Go E G (Fm E T pc' Ls st)) : Go E G (Fm E T pc Ls (.int i :: st)) :=
  g.step fun t r => XS.tswOut W.here W.exec rfl rfl (hb W.bytes hd) rfl hout ho hp r
theorem go_ldcInt (W : On k Z n0 E T h cells slots) {index : Nat} {v : Int32} (w : (Cond.constant k.y.cls index v).before a0 Z = true) (hd : decode k.bytes pc = .ok (.ldc index, 2)) (hp : pc + 2 = pc') (g : Go E G (Fm E T pc' Ls (.int v :: st))) : Go E G (Fm E T pc Ls st) := by
  obtain ⟨C, hh, _, _, _, -, -, -, X⟩ := W
  subst hp; exact g.step fun t r => X.ldcInt C.1 C.2.2.2.1 (mvT C.2.2.2.2.2.2.1 w) (g := mkF E.m pc Ls st) rfl (hb C.2.1 hd) _ r
theorem go_ldcwInt (W : On k Z n0 E T h cells slots) {index : Nat} {v : Int32} (w : (Cond.constant k.y.cls index v).before a0 Z = true) (hd : decode k.bytes pc = .ok (.ldc_w index, 3)) (hp : pc + 3 = pc') (g : Go E G (Fm E T pc' Ls (.int v :: st))) : Go E G (Fm E T pc Ls st) := by
  obtain ⟨C, hh, _, _, _, -, -, -, X⟩ := W
  subst hp; exact g.step fun t r => X.ldcwInt C.1 C.2.2.2.1 (mvT C.2.2.2.2.2.2.1 w) (g := mkF E.m pc Ls st) rfl (hb C.2.1 hd) _ r
theorem go_ldc2Long (W : On k Z n0 E T h cells slots) {index : Nat} {v : Int64} (w : (Cond.constantLong k.y.cls index v).before a0 Z = true) (hd : decode k.bytes pc = .ok (.ldc2_w index, 3)) (hp : pc + 3 = pc') (g : Go E G (Fm E T pc' Ls (.long v :: st))) : Go E G (Fm E T pc Ls st) := by
  obtain ⟨C, hh, _, _, _, -, -, -, X⟩ := W
  subst hp; exact g.step fun t r => X.ldc2Long C.1 C.2.2.2.1 (mvT C.2.2.2.2.2.2.1 w) (g := mkF E.m pc Ls st) rfl (hb C.2.1 hd) _ r
/-! fields -/
theorem go_getF (W : On k Z n0 E T h cells slots) {R0 O n d host : String} {index : Nat} (w : (Cond.fieldLink k.y.cls index R0 n d).before a0 Z = true ∨ (Cond.fieldLinkNest k.y.cls index R0 n d host).before a0 Z = true) (via : Via Z R0 O n d) {a : Addr} {v : Value} (F : Fld Z h a O n d v)
    (hd : decode k.bytes pc = .ok (.getfield index, 3)) (hp : pc + 3 = pc') (g : ∀ T', On k Z n0 E T' h cells slots → Go E G (Fm E T' pc' Ls (v :: st))) : Go E G (Fm E T pc Ls (.ref a :: st)) := by
  obtain ⟨C, hh, L, a1, b1, ha, hb1, hF, X⟩ := W
  subst hp
  obtain ⟨T', X', e', st'⟩ := getF X C.1 C.2.2.2.2.2.2.1 C.2.2.2.1 w via hh F (g := mkF E.m pc Ls (.ref a :: st)) rfl rfl (hb C.2.1 hd)
  exact (g T' ⟨C, e', L, a1, b1, ha, hb1, hF, X'⟩).step st'
theorem go_getS (W : On k Z n0 E T h cells slots) {R0 O n d host : String} {index : Nat} (w : (Cond.fieldLink k.y.cls index R0 n d).before a0 Z = true ∨ (Cond.fieldLinkNest k.y.cls index R0 n d host).before a0 Z = true) (via : Via Z R0 O n d) {v : Value} (F : Sta Z h O n d v)
    (hd : decode k.bytes pc = .ok (.getstatic index, 3)) (hp : pc + 3 = pc') (g : ∀ T', On k Z n0 E T' h cells slots → Go E G (Fm E T' pc' Ls (v :: st))) : Go E G (Fm E T pc Ls st) := by
  obtain ⟨C, hh, L, a1, b1, ha, hb1, hF, X⟩ := W
  subst hp
  obtain ⟨T', X', e', st'⟩ := getS2 X C.1 C.2.2.2.2.2.2.1 C.2.2.2.1 w via hh F (g := mkF E.m pc Ls st) rfl (hb C.2.1 hd)
  exact (g T' ⟨C, e', L, a1, b1, ha, hb1, hF, X'⟩).step st'
theorem go_putF (W : On k Z n0 E T h cells slots) {R0 O n d host K : String} {index kk : Nat} {ty : FieldType} (w : (Cond.fieldLink k.y.cls index R0 n d).before a0 Z = true ∨ (Cond.fieldLinkNest k.y.cls index R0 n d host).before a0 Z = true) (via : Via Z R0 O n d) {a : Addr} {v old : Value} (F : Fld Z h a O n d old) (Ex : Exa Z h a K)
    (L : (Cond.lays K O n d).before a0 Z = true ∨ ((Cond.laysFinal K O n d).before a0 Z = true ∧ k.y.cls = O ∧ k.y.name = "<init>")) (wi : (Cond.instantiable K kk).before a0 Z = true) (hty : parseFieldDescriptor d = some ty) (hn : narrow ty v = v) (hf : fits ty v = true) (hn0 : n0 ≤ a)
    (hd : decode k.bytes pc = .ok (.putfield index, 3)) (hp : pc + 3 = pc') (g : ∀ T' h', On k Z n0 E T' h' cells slots → Wr h h' a (Jvm.RoadKit.slotOf Z O n d) v → Go E G (Fm E T' pc' Ls st)) : Go E G (Fm E T pc Ls (v :: .ref a :: st)) := by
  obtain ⟨C, hh, Lc, a1, b1, ha, hb1, hF, X⟩ := W
  subst hp
  obtain ⟨T', h', X', e', W', st'⟩ := putF X C.1 C.2.2.2.2.2.2.1 C.2.2.2.1 w via hh F Ex (L.imp id fun q => ⟨q.1, q.2.1, C.2.2.2.2.2.2.2.1.trans q.2.2⟩) wi hty hn hf (g := mkF E.m pc Ls (v :: .ref a :: st)) rfl rfl (hb C.2.1 hd)
  exact (g T' h' ⟨C, e', _, a1, b1, ha, hb1, Fr.snoc X' hF hn0, X'⟩ W').step st'
theorem go_new (W : On k Z n0 E T h cells slots) {K : String} {index n : Nat} (w : (Cond.classLink k.y.cls index K).before a0 Z = true) (wi : (Cond.instantiable K n).before a0 Z = true) (wz : (Cond.initialized K).before a0 Z = true) (hd : decode k.bytes pc = .ok (.new index, 3)) (hc : cells + 1 ≤ k.rm.cells) (hl : slots + n ≤ k.rm.slots) (hp : pc + 3 = pc')
    (g : ∀ T' h' a, a = h.size → On k Z n0 E T' h' (cells + 1) (slots + n) → Ext h h' → Exa Z h' a K → (∀ {O nm d : String} {ty : FieldType}, Laid Z a0 K O nm d → parseFieldDescriptor d = some ty → Fld Z h' a O nm d (defaultValue ty)) → (∃ cell : Cell, h'[a]? = some cell ∧ cell.vm = .none ∧ cell.monitor = {}) → Go E G (Fm E T' pc' Ls (.ref a :: st))) : Go E G (Fm E T pc Ls st) := by
  obtain ⟨C, hh, L, a1, b1, ha, hb1, hF, X⟩ := W
  subst hp
  obtain ⟨T', h', X', e', E', A', D', M', st'⟩ := newO X C.1 C.2.2.2.2.2.2.1 C.2.2.2.1 w wi wz hh (g := mkF E.m pc Ls st) rfl (hb C.2.1 hd) (Nat.le_trans (Nat.add_le_add_right ha 1) hc) (Nat.le_trans (Nat.add_le_add_right hb1 n) hl)
  exact (g T' h' _ rfl ⟨C, e', L, _, _, Nat.add_le_add_right ha 1, Nat.add_le_add_right hb1 n, hF, X'⟩ E' A' D' M').step st'
theorem go_initO (W : On k Z n0 E T h cells slots) {index : Nat} (w1 : (Cond.methodLink k.y.cls index Lib.objectInit).before a0 Z = true) (w2 : (Cond.instanceMethod Lib.objectInit).before a0 Z = true) (w3 : (Cond.code Lib.objectInit ⟨#[0xb1]⟩ 1 none).before a0 Z = true) {a : Addr} (hd : decode k.bytes pc = .ok (.invokespecial index, 3)) (hm : Ls.size = k.maxL) (hf : 1 ≤ k.rm.frames) (hl : (st.map fun v => v.category).sum + 12 ≤ k.rm.locals) (hp : pc + 3 = pc')
    (g : ∀ T', On k Z n0 E T' h cells slots → Go E G (Fm E T' pc' Ls st)) : Go E G (Fm E T pc Ls (.ref a :: st)) := by
  obtain ⟨C, hh, L, a1, b1, ha, hb1, hF, X⟩ := W
  subst hp
  obtain ⟨T', X', e', st'⟩ := initO X C.1 C.2.2.2.2.2.2.1 C.2.2.2.1 w1 w2 w3 hh (g := mkF E.m pc Ls (.ref a :: st)) rfl (hm.trans C.2.2.1.symm) rfl (hb C.2.1 hd) hf (W := (st.map fun v => v.category).sum) (by show 2 * 0 + _ ≤ _; omega) hl
  exact (g T' ⟨C, e', L, a1, b1, ha, hb1, hF, X'⟩).step st'
theorem go_castY (W : On k Z n0 E T h cells slots) {K : String} {index : Nat} (w : (Cond.classLink k.y.cls index K).before a0 Z = true) {a : Addr} (F : Ins Z h a K true) (hd : decode k.bytes pc = .ok (.checkcast index, 3)) (hp : pc + 3 = pc') (g : ∀ T', On k Z n0 E T' h cells slots → Go E G (Fm E T' pc' Ls (.ref a :: st))) : Go E G (Fm E T pc Ls (.ref a :: st)) := by
  obtain ⟨C, hh, L, a1, b1, ha, hb1, hF, X⟩ := W
  subst hp
  obtain ⟨T', X', e', st'⟩ := castY X C.1 C.2.2.2.2.2.2.1 C.2.2.2.1 w hh F (g := mkF E.m pc Ls (.ref a :: st)) rfl rfl (hb C.2.1 hd)
  exact (g T' ⟨C, e', L, a1, b1, ha, hb1, hF, X'⟩).step st'
theorem go_instY (W : On k Z n0 E T h cells slots) {K : String} {index : Nat} (w : (Cond.classLink k.y.cls index K).before a0 Z = true) {a : Addr} (F : Ins Z h a K true) (hd : decode k.bytes pc = .ok (.instanceof index, 3)) (hp : pc + 3 = pc') (g : ∀ T', On k Z n0 E T' h cells slots → Go E G (Fm E T' pc' Ls (.int 1 :: st))) : Go E G (Fm E T pc Ls (.ref a :: st)) := by
  obtain ⟨C, hh, L, a1, b1, ha, hb1, hF, X⟩ := W
  subst hp
  obtain ⟨T', X', e', st'⟩ := instY X C.1 C.2.2.2.2.2.2.1 C.2.2.2.1 w hh F (g := mkF E.m pc Ls (.ref a :: st)) rfl rfl (hb C.2.1 hd)
  exact (g T' ⟨C, e', L, a1, b1, ha, hb1, hF, X'⟩).step st'
/-! arrays -/
theorem go_newP (W : On k Z n0 E T h cells slots) {aty : ArrayType} (w : (Cond.arrayClass (newarray.typeOf aty)).before a0 Z = true) {n : Int32} (hd : decode k.bytes pc = .ok (.newarray aty, 2)) (hn : ¬ n < 0) (cap : Nat) (hcap : n.toNatClampNeg ≤ cap) (hb8 : cap * 8 ≤ 536870912) (hc : cells + 1 ≤ k.rm.cells) (hl : slots + cap ≤ k.rm.slots) (hp : pc + 2 = pc')
    (g : ∀ T' h' cA a, a = h.size → On k Z n0 E T' h' (cells + 1) (slots + cap) → Ext h h' → Arr Z h' a (newA cA (newarray.typeOf aty) n) (newarray.typeOf aty) → Go E G (Fm E T' pc' Ls (.ref a :: st))) : Go E G (Fm E T pc Ls (.int n :: st)) := by
  obtain ⟨C, hh, L, a1, b1, ha, hb1, hF, X⟩ := W
  subst hp
  obtain ⟨T', h', cA, X', e', E', A', st'⟩ := newP X C.1 C.2.2.2.2.2.2.1 w hh (g := mkF E.m pc Ls (.int n :: st)) rfl (hb C.2.1 hd) rfl hn hcap hb8 (Nat.le_trans (Nat.add_le_add_right ha 1) hc) (Nat.le_trans (Nat.add_le_add_right hb1 cap) hl)
  exact (g T' h' cA _ rfl ⟨C, e', L, _, _, Nat.add_le_add_right ha 1, Nat.add_le_add_right hb1 cap, hF, X'⟩ E' A').step st'
theorem go_arraylength (W : On k Z n0 E T h cells slots) {a : Addr} {cl : Cell} {ty : FieldType} {z : Int32} (A : Arr Z h a cl ty) (hz : cl.slots.size.toInt32 = z) (hd : decode k.bytes pc = .ok (.arraylength, 1)) (hp : pc + 1 = pc') (g : Go E G (Fm E T pc' Ls (.int z :: st))) : Go E G (Fm E T pc Ls (.ref a :: st)) := by
  obtain ⟨C, hh, L, a1, b1, ha, hb1, hF, X⟩ := W
  subst hp; subst hz
  exact g.step fun t r => X.arraylength C.1 (by rw [hh]; exact A.1) (State.isArrayOf_alike C.2.2.2.2.2.2.1.alike A.2.1) (g := mkF E.m pc Ls (.ref a :: st)) rfl rfl (hb C.2.1 hd) _ r
theorem go_stI (W : On k Z n0 E T h cells slots) {a : Addr} {cl : Cell} (A : Arr Z h a cl .int) {j : Int32} {x : Int32} (hj : ¬ (j < 0 ∨ cl.slots.size ≤ j.toNatClampNeg)) (hn0 : n0 ≤ a) (hd : decode k.bytes pc = .ok (.iastore, 1)) (hp : pc + 1 = pc') (g : ∀ T' h', On k Z n0 E T' h' cells slots → Wr h h' a j.toNatClampNeg (.int x) → Go E G (Fm E T' pc' Ls st)) : Go E G (Fm E T pc Ls (.int x :: .int j :: .ref a :: st)) := by
  obtain ⟨C, hh, L, a1, b1, ha, hb1, hF, X⟩ := W
  subst hp
  obtain ⟨T', h', X', e', W', st'⟩ := stI X C.1 C.2.2.2.2.2.2.1 hh A hj (g := mkF E.m pc Ls (.int x :: .int j :: .ref a :: st)) rfl rfl (hb C.2.1 hd)
  exact (g T' h' ⟨C, e', _, a1, b1, ha, hb1, Fr.snoc X' hF hn0, X'⟩ W').step st'
theorem go_stJ (W : On k Z n0 E T h cells slots) {a : Addr} {cl : Cell} (A : Arr Z h a cl .long) {j : Int32} {x : Int64} (hj : ¬ (j < 0 ∨ cl.slots.size ≤ j.toNatClampNeg)) (hn0 : n0 ≤ a) (hd : decode k.bytes pc = .ok (.lastore, 1)) (hp : pc + 1 = pc') (g : ∀ T' h', On k Z n0 E T' h' cells slots → Wr h h' a j.toNatClampNeg (.long x) → Go E G (Fm E T' pc' Ls st)) : Go E G (Fm E T pc Ls (.long x :: .int j :: .ref a :: st)) := by
  obtain ⟨C, hh, L, a1, b1, ha, hb1, hF, X⟩ := W
  subst hp
  obtain ⟨T', h', X', e', W', st'⟩ := stJ X C.1 C.2.2.2.2.2.2.1 hh A hj (g := mkF E.m pc Ls (.long x :: .int j :: .ref a :: st)) rfl rfl (hb C.2.1 hd)
  exact (g T' h' ⟨C, e', _, a1, b1, ha, hb1, Fr.snoc X' hF hn0, X'⟩ W').step st'
theorem go_stC (W : On k Z n0 E T h cells slots) {a : Addr} {cl : Cell} (A : Arr Z h a cl .char) {j : Int32} {x : Int32} (hj : ¬ (j < 0 ∨ cl.slots.size ≤ j.toNatClampNeg)) (hn0 : n0 ≤ a) (hd : decode k.bytes pc = .ok (.castore, 1)) (hp : pc + 1 = pc') (g : ∀ T' h', On k Z n0 E T' h' cells slots → Wr h h' a j.toNatClampNeg (.int (nar .char x)) → Go E G (Fm E T' pc' Ls st)) : Go E G (Fm E T pc Ls (.int x :: .int j :: .ref a :: st)) := by
  obtain ⟨C, hh, L, a1, b1, ha, hb1, hF, X⟩ := W
  subst hp
  obtain ⟨T', h', X', e', W', st'⟩ := stC X C.1 C.2.2.2.2.2.2.1 hh A hj (g := mkF E.m pc Ls (.int x :: .int j :: .ref a :: st)) rfl rfl (hb C.2.1 hd)
  exact (g T' h' ⟨C, e', _, a1, b1, ha, hb1, Fr.snoc X' hF hn0, X'⟩ W').step st'
theorem go_stB (W : On k Z n0 E T h cells slots) {a : Addr} {cl : Cell} (A : Arr Z h a cl .byte) {j : Int32} {x : Int32} (hj : ¬ (j < 0 ∨ cl.slots.size ≤ j.toNatClampNeg)) (hn0 : n0 ≤ a) (hd : decode k.bytes pc = .ok (.bastore, 1)) (hp : pc + 1 = pc') (g : ∀ T' h', On k Z n0 E T' h' cells slots → Wr h h' a j.toNatClampNeg (.int (nar .byte x)) → Go E G (Fm E T' pc' Ls st)) : Go E G (Fm E T pc Ls (.int x :: .int j :: .ref a :: st)) := by
  obtain ⟨C, hh, L, a1, b1, ha, hb1, hF, X⟩ := W
  subst hp
  obtain ⟨T', h', X', e', W', st'⟩ := stB X C.1 C.2.2.2.2.2.2.1 hh A hj (g := mkF E.m pc Ls (.int x :: .int j :: .ref a :: st)) rfl rfl (hb C.2.1 hd)
  exact (g T' h' ⟨C, e', _, a1, b1, ha, hb1, Fr.snoc X' hF hn0, X'⟩ W').step st'
theorem go_stZ (W : On k Z n0 E T h cells slots) {a : Addr} {cl : Cell} (A : Arr Z h a cl .boolean) {j : Int32} {x : Int32} (hj : ¬ (j < 0 ∨ cl.slots.size ≤ j.toNatClampNeg)) (hn0 : n0 ≤ a) (hd : decode k.bytes pc = .ok (.bastore, 1)) (hp : pc + 1 = pc') (g : ∀ T' h', On k Z n0 E T' h' cells slots → Wr h h' a j.toNatClampNeg (.int (nar .boolean x)) → Go E G (Fm E T' pc' Ls st)) : Go E G (Fm E T pc Ls (.int x :: .int j :: .ref a :: st)) := by
  obtain ⟨C, hh, L, a1, b1, ha, hb1, hF, X⟩ := W
  subst hp
  obtain ⟨T', h', X', e', W', st'⟩ := stZ X C.1 C.2.2.2.2.2.2.1 hh A hj (g := mkF E.m pc Ls (.int x :: .int j :: .ref a :: st)) rfl rfl (hb C.2.1 hd)
  exact (g T' h' ⟨C, e', _, a1, b1, ha, hb1, Fr.snoc X' hF hn0, X'⟩ W').step st'
theorem go_iaload (W : On k Z n0 E T h cells slots) {a : Addr} {cl : Cell} (A : Arr Z h a cl .int) {j : Int32} {v : Value} (hj : ¬ (j < 0 ∨ cl.slots.size ≤ j.toNatClampNeg)) (hat : cl.slots[j.toNatClampNeg]? = some v) (hd : decode k.bytes pc = .ok (.iaload, 1)) (hp : pc + 1 = pc') (g : Go E G (Fm E T pc' Ls (v :: st))) : Go E G (Fm E T pc Ls (.int j :: .ref a :: st)) := by
  obtain ⟨C, hh, L, a1, b1, ha, hb1, hF, X⟩ := W
  subst hp
  exact g.step fun t r => X.iaload C.1 (j := j) (v := v) (by rw [hh]; exact A.1) (State.isArrayOf_alike C.2.2.2.2.2.2.1.alike A.2.1) A.2.2 hj hat (g := mkF E.m pc Ls (.int j :: .ref a :: st)) rfl rfl (hb C.2.1 hd) _ r
theorem go_laload (W : On k Z n0 E T h cells slots) {a : Addr} {cl : Cell} (A : Arr Z h a cl .long) {j : Int32} {v : Value} (hj : ¬ (j < 0 ∨ cl.slots.size ≤ j.toNatClampNeg)) (hat : cl.slots[j.toNatClampNeg]? = some v) (hd : decode k.bytes pc = .ok (.laload, 1)) (hp : pc + 1 = pc') (g : Go E G (Fm E T pc' Ls (v :: st))) : Go E G (Fm E T pc Ls (.int j :: .ref a :: st)) := by
  obtain ⟨C, hh, L, a1, b1, ha, hb1, hF, X⟩ := W
  subst hp
  exact g.step fun t r => X.laload C.1 (j := j) (v := v) (by rw [hh]; exact A.1) (State.isArrayOf_alike C.2.2.2.2.2.2.1.alike A.2.1) A.2.2 hj hat (g := mkF E.m pc Ls (.int j :: .ref a :: st)) rfl rfl (hb C.2.1 hd) _ r
theorem go_caload (W : On k Z n0 E T h cells slots) {a : Addr} {cl : Cell} (A : Arr Z h a cl .char) {j : Int32} {v : Value} (hj : ¬ (j < 0 ∨ cl.slots.size ≤ j.toNatClampNeg)) (hat : cl.slots[j.toNatClampNeg]? = some v) (hd : decode k.bytes pc = .ok (.caload, 1)) (hp : pc + 1 = pc') (g : Go E G (Fm E T pc' Ls (v :: st))) : Go E G (Fm E T pc Ls (.int j :: .ref a :: st)) := by
  obtain ⟨C, hh, L, a1, b1, ha, hb1, hF, X⟩ := W
  subst hp
  exact g.step fun t r => X.caload C.1 (j := j) (v := v) (by rw [hh]; exact A.1) (State.isArrayOf_alike C.2.2.2.2.2.2.1.alike A.2.1) A.2.2 hj hat (g := mkF E.m pc Ls (.int j :: .ref a :: st)) rfl rfl (hb C.2.1 hd) _ r
theorem go_baload (W : On k Z n0 E T h cells slots) {a : Addr} {cl : Cell} (A : Arr Z h a cl .byte) {j : Int32} {v : Value} (hj : ¬ (j < 0 ∨ cl.slots.size ≤ j.toNatClampNeg)) (hat : cl.slots[j.toNatClampNeg]? = some v) (hd : decode k.bytes pc = .ok (.baload, 1)) (hp : pc + 1 = pc') (g : Go E G (Fm E T pc' Ls (v :: st))) : Go E G (Fm E T pc Ls (.int j :: .ref a :: st)) := by
  obtain ⟨C, hh, L, a1, b1, ha, hb1, hF, X⟩ := W
  subst hp
  exact g.step fun t r => X.baloadBytes C.1 (j := j) (v := v) (by rw [hh]; exact A.1) (State.isArrayOf_alike C.2.2.2.2.2.2.1.alike A.2.1) A.2.2 hj hat (g := mkF E.m pc Ls (.int j :: .ref a :: st)) rfl rfl (hb C.2.1 hd) _ r
theorem go_aaload (W : On k Z n0 E T h cells slots) {a : Addr} {cl : Cell} {ty : FieldType} (A : Arr Z h a cl ty) (hty : ty.isReference = true) {j : Int32} {v : Value} (hj : ¬ (j < 0 ∨ cl.slots.size ≤ j.toNatClampNeg)) (hat : cl.slots[j.toNatClampNeg]? = some v) (hd : decode k.bytes pc = .ok (.aaload, 1)) (hp : pc + 1 = pc') (g : Go E G (Fm E T pc' Ls (v :: st))) : Go E G (Fm E T pc Ls (.int j :: .ref a :: st)) := by
  obtain ⟨C, hh, L, a1, b1, ha, hb1, hF, X⟩ := W
  subst hp
  exact g.step fun t r => X.aaload C.1 (j := j) (v := v) (by rw [hh]; exact A.1) (State.isArrayOf_alike C.2.2.2.2.2.2.1.alike A.2.1) hty A.2.2 hj hat (g := mkF E.m pc Ls (.int j :: .ref a :: st)) rfl rfl (hb C.2.1 hd) _ r
/-! the end -/
def EndQ (s : State) (n0 : Nat) (Q : Option Value → Heap → Prop) (C N : Nat) : State → Outcome → Prop := fun t o => ∃ v L, o = .returned v ∧ (Q v t.heap ∧ Fr n0 L) ∧ FrameEnd s o t L C N
/-- a method's contract: from the heap h0, with these arguments, it returns, and Q holds of what it hands back and of the heap that it leaves -/
def Ct (l : Launch) (Z : State) (k : Mt) (as' : Array Value) (h0 : Heap) (n0 : Nat) (Q : Option Value → Heap → Prop) : Prop :=
  ∀ ws, MetFree l k.y (head1 (Cond.code k.y k.bytes k.maxL k.ret :: ws) k.rm) (fun a U => a = as' ∧ Z.Warmed39 U.vm ∧ U.heap = h0) (fun _ _ _ _ _ => True) (fun _ U o U' => ∃ v L, o = .returned v ∧ (Q v U'.heap ∧ Fr n0 L) ∧ FrameEnd U o U' L k.rm.cells k.rm.slots)
theorem Ct.of {l : Launch} {as' : Array Value} {h0 : Heap} {Q : Option Value → Heap → Prop} (hpl : plainFor k.y = true) (ef : ∀ m, entryFrame m as' k.maxL = mkF m 0 Ls []) (body : ∀ (E : Cx) (T : State), On k Z n0 E T h0 0 0 → Go E (EndQ E.s n0 Q k.rm.cells k.rm.slots) (Fm E T 0 Ls [])) : Ct l Z k as' h0 n0 Q := fun ws => by
  refine MetFree.of_bodySF hpl hisR ?_
  intro p e s m args below meth c s₁ Bd hml0 hP hK
  obtain ⟨rfl, hZ, hh⟩ := hP
  have X0 : Stand p l e k.rm s m args below meth c s₁ [] 0 0 := Stand.of_body Bd
  obtain ⟨s₂, o, h1, h2, h3, h4⟩ := body (p, l, e, s, m, args, below, meth, c) s₁ ⟨⟨Bd.exec, Bd.bytes, hml0, findClass_of_methodNamed Bd.named, Bd.returns, Bd.notSynchronized, hZ, (name_of_methodNamed Bd.named Bd.method).1, Bd.named⟩, by rw [← hh, Bd.state]; rfl, [], 0, 0, Nat.le_refl _, Nat.le_refl _, Fr.nil n0, X0⟩
  exact ⟨s₂, o, castTop (ef m) h1, h2, h3, h4⟩
theorem Ct.mono {l : Launch} {as' : Array Value} {h0 : Heap} {Q Q' : Option Value → Heap → Prop} (c : Ct l Z k as' h0 n0 Q) (q : ∀ v h, Q v h → Q' v h) : Ct l Z k as' h0 n0 Q' := fun ws p e ha hc hk s m args below hf happ hP hK => by
  obtain ⟨n, o, h1, h2, h3, v, L, h4, h5, h6⟩ := c ws p e ha hc hk s m args below hf happ hP hK
  exact ⟨n, o, h1, h2, h3, v, L, h4, ⟨q _ _ h5.1, h5.2⟩, h6⟩
theorem go_ret (W : On k Z n0 E T h cells slots) {Q : Option Value → Heap → Prop} {C N : Nat} {w : Value} {t : FieldType} {i : Instr} (hret : k.ret = some t) (hn : narrow t w = w)
    (hi : (i = .ireturn ∧ (t = .int ∨ t = .boolean ∨ t = .byte ∨ t = .char ∨ t = .short) ∧ ∃ z, w = .int z) ∨ (i = .lreturn ∧ t = .long ∧ ∃ z, w = .long z) ∨ (i = .dreturn ∧ t = .double ∧ ∃ z, w = .double z) ∨ (i = .freturn ∧ t = .float ∧ ∃ z, w = .float z) ∨ (i = .areturn ∧ t.isReference = true ∧ w.isRef = true))
    (hd : decode k.bytes pc = .ok (i, 1)) (hC : cells ≤ C) (hN : slots ≤ N) (hq : Q (some w) h) : Go E (EndQ E.s n0 Q C N) (Fm E T pc Ls (w :: st)) := by
  obtain ⟨⟨c1, c2, c3, c4, c5, c6, c7, c8, c9⟩, hh, L, a1, b1, ha, hb1, hF, X⟩ := W
  have hr : E.meth.sig.returnType = some t := c5.trans hret
  obtain ⟨fs, hr', hrun, hended, hW, hsame⟩ := X.leave (v := some w) (fun h => by rw [hr] at h; cases h) c6
  exact ⟨_, _, retOut X c1 hr hn hi (hb c2 hd) hr', hrun, hended, some w, L, rfl, ⟨by show Q (some w) T.heap; rw [hh]; exact hq, hF⟩, ⟨_, rfl⟩, hW, hsame.mono (Nat.le_trans ha hC) (Nat.le_trans hb1 hN)⟩
theorem go_retI (W : On k Z n0 E T h cells slots) {Q : Option Value → Heap → Prop} {C N : Nat} {w : Int32} {t : FieldType} (hret : k.ret = some t) (ht : t = .int ∨ t = .boolean ∨ t = .byte ∨ t = .char ∨ t = .short) (hn : narrow t (.int w) = .int w) (hd : decode k.bytes pc = .ok (.ireturn, 1)) (hC : cells ≤ C) (hN : slots ≤ N) (hq : Q (some (.int w)) h) : Go E (EndQ E.s n0 Q C N) (Fm E T pc Ls (.int w :: st)) :=
  go_ret W hret hn (Or.inl ⟨rfl, ht, _, rfl⟩) hd hC hN hq
theorem go_retL (W : On k Z n0 E T h cells slots) {Q : Option Value → Heap → Prop} {C N : Nat} {w : Int64} (hret : k.ret = some .long) (hd : decode k.bytes pc = .ok (.lreturn, 1)) (hC : cells ≤ C) (hN : slots ≤ N) (hq : Q (some (.long w)) h) : Go E (EndQ E.s n0 Q C N) (Fm E T pc Ls (.long w :: st)) :=
  go_ret W hret rfl (Or.inr (Or.inl ⟨rfl, rfl, _, rfl⟩)) hd hC hN hq
theorem go_retA (W : On k Z n0 E T h cells slots) {Q : Option Value → Heap → Prop} {C N : Nat} {w : Value} {t : FieldType} (hret : k.ret = some t) (ht : t.isReference = true) (hw : w.isRef = true) (hn : narrow t w = w) (hd : decode k.bytes pc = .ok (.areturn, 1)) (hC : cells ≤ C) (hN : slots ≤ N) (hq : Q (some w) h) : Go E (EndQ E.s n0 Q C N) (Fm E T pc Ls (w :: st)) :=
  go_ret W hret hn (Or.inr (Or.inr (Or.inr (Or.inr ⟨rfl, ht, hw⟩)))) hd hC hN hq
theorem go_retV (W : On k Z n0 E T h cells slots) {Q : Option Value → Heap → Prop} {C N : Nat} (hret : k.ret = none) (hd : decode k.bytes pc = .ok (.return_, 1)) (hC : cells ≤ C) (hN : slots ≤ N) (hq : Q none h) : Go E (EndQ E.s n0 Q C N) (Fm E T pc Ls []) := by
  obtain ⟨⟨c1, c2, c3, c4, c5, c6, c7, c8, c9⟩, hh, L, a1, b1, ha, hb1, hF, X⟩ := W
  have hr : E.meth.sig.returnType = none := c5.trans hret
  obtain ⟨fs, hr', hrun, hended, hW, hsame⟩ := X.leave (v := none) (fun _ => rfl) c6
  exact ⟨_, _, X.returnOut c1 hr (hb c2 hd) hr', hrun, hended, none, L, rfl, ⟨by show Q none T.heap; rw [hh]; exact hq, hF⟩, ⟨_, rfl⟩, hW, hsame.mono (Nat.le_trans ha hC) (Nat.le_trans hb1 hN)⟩
/-! calls: by the callee's contract -/
theorem Ct.back {kc : Mt} {as' : Array Value} {Q : Option Value → Heap → Prop} (c : Ct E.l Z kc as' h n0 Q) (hZ : Z.Warmed39 E.s.vm) (wc : (Cond.code kc.y kc.bytes kc.maxL kc.ret).before a0 Z = true) (wz : (Cond.initialized kc.y.cls).before a0 Z = true) {W len : Nat} (hf : kc.rm.frames + 1 ≤ k.rm.frames) (hl : W + (kc.maxL + 11) + kc.rm.locals ≤ k.rm.locals) :
    Back E.l k.rm E.p E.e E.below E.s E.args kc.y len W (fun A a => a = as' ∧ A.U.heap = h ∧ A.cells + kc.rm.cells ≤ k.rm.cells ∧ A.slots + kc.rm.slots ≤ k.rm.slots)
      (fun A _ v B => ∃ L, (Q v B.U.heap ∧ Fr n0 L) ∧ B.locs = A.locs ++ L ∧ B.cells = A.cells + kc.rm.cells ∧ B.slots = A.slots + kc.rm.slots) :=
  backOf (Q := fun v h L => Q v h ∧ Fr n0 L) (c []) hZ wc wz hf hl
theorem go_callS (W : On k Z n0 E T h cells slots) {kc : Mt} {index : Nat} {argsL rest : List Value} {ps : List FieldType} {r : Option FieldType} {Q : Option Value → Heap → Prop} (w1 : (Cond.methodLink k.y.cls index kc.y).before a0 Z = true) (w2 : (Cond.static kc.y).before a0 Z = true) (w3 : (Cond.initialized kc.y.cls).before a0 Z = true) (w4 : (Cond.code kc.y kc.bytes kc.maxL kc.ret).before a0 Z = true)
    (c : Ct E.l Z kc argsL.toArray h n0 Q) (hy : kc.y.cls ≠ "java/lang/invoke/MethodHandle" ∧ kc.y.cls ≠ "java/lang/invoke/VarHandle") (hdesc : parseMethodDescriptor kc.y.desc = some ⟨ps, r⟩) (hlen : argsL.length = ps.length) (hst : st = argsL.reverse ++ rest) (hm : Ls.size = k.maxL)
    (hf : kc.rm.frames + 1 ≤ k.rm.frames) (hl : (rest.map fun v => v.category).sum + (kc.maxL + 11) + kc.rm.locals ≤ k.rm.locals) (hcl : cells + kc.rm.cells ≤ k.rm.cells) (hsl : slots + kc.rm.slots ≤ k.rm.slots) (hd : decode k.bytes pc = .ok (.invokestatic index, 3)) (hp : pc + 3 = pc')
    (g : ∀ v T' h', Q v h' → On k Z n0 E T' h' (cells + kc.rm.cells) (slots + kc.rm.slots) → Go E G (Fm E T' pc' Ls (v.toList ++ rest))) : Go E G (Fm E T pc Ls st) := by
  obtain ⟨C, hh, L, a1, b1, ha, hb1, hF, X⟩ := W
  subst hp
  have hZ := C.2.2.2.2.2.2.1
  obtain ⟨v, _, ⟨T', L', k', n'⟩, -, X', ⟨Lc, hQ, l', y', z'⟩, st'⟩ := Jvm.LawKit.callS X C.1 (y := kc.y) C.2.2.2.1 (mvT hZ w1) (mvT hZ w2) (mvT hZ w3) (mvT hZ w4) hy (c.back (k := k) (W := (rest.map fun v => v.category).sum) hZ w4 w3 hf hl) (g := mkF E.m pc Ls st) rfl (hm.trans C.2.2.1.symm) (argsL := argsL) (rest := rest) (lenOf hdesc hlen) hst (by show 2 * 0 + _ ≤ _; omega) (hb C.2.1 hd) (fun _ _ => ⟨rfl, hh, Nat.le_trans (Nat.add_le_add_right ha _) hcl, Nat.le_trans (Nat.add_le_add_right hb1 _) hsl⟩)
  dsimp only [Pt.U, Pt.locs, Pt.cells, Pt.slots] at X' l' y' z' st' hQ
  subst l' y' z'
  exact (g v T' _ hQ.1 ⟨C, rfl, _, _, _, Nat.add_le_add_right ha _, Nat.add_le_add_right hb1 _, Fr.app hF hQ.2, X'⟩).step st'
theorem go_callN (W : On k Z n0 E T h cells slots) {kc : Mt} {index : Nat} {a : Addr} {argsL rest : List Value} {ps : List FieldType} {r : Option FieldType} {Q : Option Value → Heap → Prop} (w1 : (Cond.methodLink k.y.cls index kc.y).before a0 Z = true) (w2 : (Cond.instanceMethod kc.y).before a0 Z = true) (w3 : (Cond.initialized kc.y.cls).before a0 Z = true) (w4 : (Cond.code kc.y kc.bytes kc.maxL none).before a0 Z = true)
    (c : Ct E.l Z kc (.ref a :: argsL).toArray h n0 Q) (hi : kc.y.name = "<init>") (hrt : kc.ret = none) (hy : kc.y.cls ≠ "java/lang/invoke/MethodHandle" ∧ kc.y.cls ≠ "java/lang/invoke/VarHandle") (hdesc : parseMethodDescriptor kc.y.desc = some ⟨ps, r⟩) (hlen : argsL.length = ps.length) (hst : st = argsL.reverse ++ .ref a :: rest) (hm : Ls.size = k.maxL)
    (hf : kc.rm.frames + 1 ≤ k.rm.frames) (hl : (rest.map fun v => v.category).sum + (kc.maxL + 11) + kc.rm.locals ≤ k.rm.locals) (hcl : cells + kc.rm.cells ≤ k.rm.cells) (hsl : slots + kc.rm.slots ≤ k.rm.slots) (hd : decode k.bytes pc = .ok (.invokespecial index, 3)) (hp : pc + 3 = pc')
    (g : ∀ v T' h', Q v h' → On k Z n0 E T' h' (cells + kc.rm.cells) (slots + kc.rm.slots) → Go E G (Fm E T' pc' Ls (v.toList ++ rest))) : Go E G (Fm E T pc Ls st) := by
  obtain ⟨C, hh, L, a1, b1, ha, hb1, hF, X⟩ := W
  subst hp
  have hZ := C.2.2.2.2.2.2.1
  obtain ⟨v, _, ⟨T', L', k', n'⟩, -, X', ⟨Lc, hQ, l', y', z'⟩, st'⟩ := X.specialBack C.1 (y := kc.y) hi C.2.2.2.1 (mvT hZ w1) (mvT hZ w2) (mvT hZ w4) hy (c.back (k := k) (W := (rest.map fun v => v.category).sum) hZ (hrt ▸ w4) w3 hf hl) (g := mkF E.m pc Ls st) rfl (hm.trans C.2.2.1.symm) (Steps.refl _) (a := a) (argsL := argsL) (rest := rest) (lenOf hdesc hlen) hst (by show 2 * 0 + _ ≤ _; omega) (hb C.2.1 hd) (fun _ _ => ⟨rfl, hh, Nat.le_trans (Nat.add_le_add_right ha _) hcl, Nat.le_trans (Nat.add_le_add_right hb1 _) hsl⟩)
  dsimp only [Pt.U, Pt.locs, Pt.cells, Pt.slots] at X' l' y' z' st' hQ
  subst l' y' z'
  exact (g v T' _ hQ.1 ⟨C, rfl, _, _, _, Nat.add_le_add_right ha _, Nat.add_le_add_right hb1 _, Fr.app hF hQ.2, X'⟩).step fun t q => st'.trans q
theorem go_callV (W : On k Z n0 E T h cells slots) {kc : Mt} {y : MethodName} {K : String} {index : Nat} {a : Addr} {argsL rest : List Value} {ps : List FieldType} {r : Option FieldType} {Q : Option Value → Heap → Prop} (w1 : (Cond.methodLink k.y.cls index y).before a0 Z = true) (w2 : (Cond.declares y).before a0 Z = true) (nf : NotFace E.s y) (w3 : (Cond.selects K y kc.y).before a0 Z = true) (w4 : (Cond.instanceMethod kc.y).before a0 Z = true) (w5 : (Cond.initialized kc.y.cls).before a0 Z = true) (w6 : (Cond.code kc.y kc.bytes kc.maxL kc.ret).before a0 Z = true)
    (Ex : Exa Z h a K) (c : Ct E.l Z kc (.ref a :: argsL).toArray h n0 Q) (hy : y.cls ≠ "java/lang/invoke/MethodHandle" ∧ y.cls ≠ "java/lang/invoke/VarHandle") (hdesc : parseMethodDescriptor y.desc = some ⟨ps, r⟩) (hlen : argsL.length = ps.length) (hst : st = argsL.reverse ++ .ref a :: rest) (hm : Ls.size = k.maxL)
    (hf : kc.rm.frames + 1 ≤ k.rm.frames) (hl : (rest.map fun v => v.category).sum + (kc.maxL + 11) + kc.rm.locals ≤ k.rm.locals) (hcl : cells + kc.rm.cells ≤ k.rm.cells) (hsl : slots + kc.rm.slots ≤ k.rm.slots) (hd : decode k.bytes pc = .ok (.invokevirtual index, 3)) (hp : pc + 3 = pc')
    (g : ∀ v T' h', Q v h' → On k Z n0 E T' h' (cells + kc.rm.cells) (slots + kc.rm.slots) → Go E G (Fm E T' pc' Ls (v.toList ++ rest))) : Go E G (Fm E T pc Ls st) := by
  obtain ⟨C, hh, L, a1, b1, ha, hb1, hF, X⟩ := W
  subst hp
  have hZ := C.2.2.2.2.2.2.1
  obtain ⟨cq, kq, qa, qb, qc⟩ := isOf (T := T) hZ hh Ex
  obtain ⟨v, _, ⟨T', L', k', n'⟩, -, X', ⟨Lc, hQ, l', y', z'⟩, st'⟩ := X.virtualBack C.1 (y := y) (z := kc.y) C.2.2.2.1 (mvT hZ w1) (mvT hZ w2) nf (mvT hZ w3) (mvT hZ w4) hy (c.back (k := k) (W := (rest.map fun v => v.category).sum) hZ w6 w5 hf hl) qa qc (g := mkF E.m pc Ls st) rfl (hm.trans C.2.2.1.symm) (Steps.refl _) (argsL := argsL) (rest := rest) (lenOf hdesc hlen) hst (by show 2 * 0 + _ ≤ _; omega) (hb C.2.1 hd) (fun _ _ => ⟨rfl, hh, Nat.le_trans (Nat.add_le_add_right ha _) hcl, Nat.le_trans (Nat.add_le_add_right hb1 _) hsl⟩)
  dsimp only [Pt.U, Pt.locs, Pt.cells, Pt.slots] at X' l' y' z' st' hQ
  subst l' y' z'
  exact (g v T' _ hQ.1 ⟨C, rfl, _, _, _, Nat.add_le_add_right ha _, Nat.add_le_add_right hb1 _, Fr.app hF hQ.2, X'⟩).step fun t q => st'.trans q
theorem nf_sel (W : On k Z n0 E T h cells slots) {y : MethodName} (w : (Cond.selects y.cls y y).before a0 Z = true) : NotFace E.s y := notFace_of_selects (args := #[]) (mvT W.hZ w)
theorem nf_sup (W : On k Z n0 E T h cells slots) {y : MethodName} {S : String} (w : (Cond.superclass y.cls S).before a0 Z = true) : NotFace E.s y := nf_super (args := #[]) (mvT W.hZ w)

theorem go_instNo (W : On k Z n0 E T h cells slots) {K C : String} {index : Nat} (w : (Cond.classLink k.y.cls index K).before a0 Z = true) {a : Addr} (Ex : Exa Z h a C) (F : ∃ c t, Z.vm.findClass C = some c ∧ Z.vm.findClass K = some t ∧ Z.vm.assignable c t = false) (hd : decode k.bytes pc = .ok (.instanceof index, 3)) (hp : pc + 3 = pc') (g : ∀ T', On k Z n0 E T' h cells slots → Go E G (Fm E T' pc' Ls (.int 0 :: st))) : Go E G (Fm E T pc Ls (.ref a :: st)) := by
  obtain ⟨C, hh, L, a1, b1, ha, hb1, hF, X⟩ := W
  subst hp
  obtain ⟨T', X', e', st'⟩ := instNo X C.1 C.2.2.2.2.2.2.1 C.2.2.2.1 w hh Ex F (g := mkF E.m pc Ls (.ref a :: st)) rfl rfl (hb C.2.1 hd)
  exact (g T' ⟨C, e', L, a1, b1, ha, hb1, hF, X'⟩).step st'
theorem go_instNull (W : On k Z n0 E T h cells slots) {index : Nat} (hd : decode k.bytes pc = .ok (.instanceof index, 3)) (hp : pc + 3 = pc') (g : Go E G (Fm E T pc' Ls (.int 0 :: st))) : Go E G (Fm E T pc Ls (.null :: st)) := by
  obtain ⟨C, hh, L, a1, b1, ha, hb1, hF, X⟩ := W
  subst hp
  exact g.step (X.instanceofNull C.1 (g := mkF E.m pc Ls (.null :: st)) rfl rfl (hb C.2.1 hd))
theorem go_castNull (W : On k Z n0 E T h cells slots) {index : Nat} (hd : decode k.bytes pc = .ok (.checkcast index, 3)) (hp : pc + 3 = pc') (g : Go E G (Fm E T pc' Ls (.null :: st))) : Go E G (Fm E T pc Ls (.null :: st)) := by
  obtain ⟨C, hh, L, a1, b1, ha, hb1, hF, X⟩ := W
  subst hp
  exact g.step (X.checkcastNull C.1 (g := mkF E.m pc Ls (.null :: st)) rfl rfl (hb C.2.1 hd))
theorem go_putFN (W : On k Z n0 E T h cells slots) {R0 O n d K : String} {index kk : Nat} {ty : FieldType} (w : (Cond.fieldLink k.y.cls index R0 n d).before a0 Z = true) (via : Via Z R0 O n d) {a : Addr} {v v' old : Value} (F : Fld Z h a O n d old) (Ex : Exa Z h a K)
    (L : (Cond.lays K O n d).before a0 Z = true ∨ ((Cond.laysFinal K O n d).before a0 Z = true ∧ k.y.cls = O ∧ k.y.name = "<init>")) (wi : (Cond.instantiable K kk).before a0 Z = true) (hty : parseFieldDescriptor d = some ty) (hn : narrow ty v = v') (hf : fits ty v' = true) (hn0 : n0 ≤ a)
    (hd : decode k.bytes pc = .ok (.putfield index, 3)) (hp : pc + 3 = pc') (g : ∀ T' h', On k Z n0 E T' h' cells slots → Wr h h' a (Jvm.RoadKit.slotOf Z O n d) v' → Go E G (Fm E T' pc' Ls st)) : Go E G (Fm E T pc Ls (v :: .ref a :: st)) := by
  obtain ⟨C, hh, Lc, a1, b1, ha, hb1, hF, X⟩ := W
  subst hp
  obtain ⟨T', h', X', e', W', st'⟩ := putFN X C.1 C.2.2.2.2.2.2.1 C.2.2.2.1 w via hh F Ex (L.imp id fun q => ⟨q.1, q.2.1, C.2.2.2.2.2.2.2.1.trans q.2.2⟩) wi hty hn hf (g := mkF E.m pc Ls (v :: .ref a :: st)) rfl rfl (hb C.2.1 hd)
  exact (g T' h' ⟨C, e', _, a1, b1, ha, hb1, Fr.snoc X' hF hn0, X'⟩ W').step st'
theorem go_newR (W : On k Z n0 E T h cells slots) {K : String} {index : Nat} (w1 : (Cond.classLink k.y.cls index K).before a0 Z = true) (w2 : (Cond.arrayOver (.object K)).before a0 Z = true) {n : Int32} (hd : decode k.bytes pc = .ok (.anewarray index, 3)) (hn : ¬ n < 0) (cap : Nat) (hcap : n.toNatClampNeg ≤ cap) (hb8 : cap * 8 ≤ 536870912) (hc : cells + 1 ≤ k.rm.cells) (hl : slots + cap ≤ k.rm.slots) (hp : pc + 3 = pc')
    (g : ∀ T' h' cA a, a = h.size → On k Z n0 E T' h' (cells + 1) (slots + cap) → Ext h h' → Arr Z h' a (newA cA (.object K) n) (.object K) → Ovr Z cA K → Go E G (Fm E T' pc' Ls (.ref a :: st))) : Go E G (Fm E T pc Ls (.int n :: st)) := by
  obtain ⟨C, hh, L, a1, b1, ha, hb1, hF, X⟩ := W
  subst hp
  obtain ⟨T', h', cA, X', e', E', A', O', st'⟩ := newR X C.1 C.2.2.2.2.2.2.1 C.2.2.2.1 w1 w2 hh (g := mkF E.m pc Ls (.int n :: st)) rfl (hb C.2.1 hd) rfl hn hcap hb8 (Nat.le_trans (Nat.add_le_add_right ha 1) hc) (Nat.le_trans (Nat.add_le_add_right hb1 cap) hl)
  exact (g T' h' cA _ rfl ⟨C, e', L, _, _, Nat.add_le_add_right ha 1, Nat.add_le_add_right hb1 cap, hF, X'⟩ E' A' O').step st'
theorem go_stR (W : On k Z n0 E T h cells slots) {a : Addr} {cl : Cell} {ty : FieldType} (A : Arr Z h a cl ty) {j : Int32} {v : Value} (hj : ¬ (j < 0 ∨ cl.slots.size ≤ j.toNatClampNeg)) (hty : ty.isReference = true) (F : Sto Z h a v) (hn0 : n0 ≤ a) (hd : decode k.bytes pc = .ok (.aastore, 1)) (hp : pc + 1 = pc') (g : ∀ T' h', On k Z n0 E T' h' cells slots → Wr h h' a j.toNatClampNeg v → Go E G (Fm E T' pc' Ls st)) : Go E G (Fm E T pc Ls (v :: .int j :: .ref a :: st)) := by
  obtain ⟨C, hh, L, a1, b1, ha, hb1, hF, X⟩ := W
  subst hp
  obtain ⟨T', h', X', e', W', st'⟩ := stR X C.1 C.2.2.2.2.2.2.1 hh A hj hty F (g := mkF E.m pc Ls (v :: .int j :: .ref a :: st)) rfl rfl (hb C.2.1 hd)
  exact (g T' h' ⟨C, e', _, a1, b1, ha, hb1, Fr.snoc X' hF hn0, X'⟩ W').step st'
theorem go_newPE (W : On k Z n0 E T h cells slots) {aty : ArrayType} (w : (Cond.arrayClass (newarray.typeOf aty)).before a0 Z = true) {n : Int32} (hd : decode k.bytes pc = .ok (.newarray aty, 2)) (hn : ¬ n < 0) (cap : Nat) (hcap : n.toNatClampNeg ≤ cap) (hb8 : cap * 8 ≤ 536870912) (hc : cells + 1 ≤ k.rm.cells) (hl : slots + cap ≤ k.rm.slots) {ad : String} (had : "[" ++ (newarray.typeOf aty).toString = ad) (hp : pc + 2 = pc')
    (g : ∀ T' h' cA a, a = h.size → On k Z n0 E T' h' (cells + 1) (slots + cap) → Ext h h' → Arr Z h' a (newA cA (newarray.typeOf aty) n) (newarray.typeOf aty) → Exa Z h' a ad → Go E G (Fm E T' pc' Ls (.ref a :: st))) : Go E G (Fm E T pc Ls (.int n :: st)) := by
  obtain ⟨C, hh, L, a1, b1, ha, hb1, hF, X⟩ := W
  subst hp
  obtain ⟨T', h', cA, X', e', E', A', Q', st'⟩ := newPE X C.1 C.2.2.2.2.2.2.1 w hh (g := mkF E.m pc Ls (.int n :: st)) rfl (hb C.2.1 hd) rfl hn hcap hb8 (Nat.le_trans (Nat.add_le_add_right ha 1) hc) (Nat.le_trans (Nat.add_le_add_right hb1 cap) hl) had
  exact (g T' h' cA _ rfl ⟨C, e', L, _, _, Nat.add_le_add_right ha 1, Nat.add_le_add_right hb1 cap, hF, X'⟩ E' A' Q').step st'
theorem go_cloneA (W : On k Z n0 E T h cells slots) {ad : String} {index : Nat} (w1 : (Cond.methodLink k.y.cls index ⟨ad, "clone", "()Ljava/lang/Object;"⟩).before a0 Z = true) (w2 : (Cond.sameMethod ad "java/lang/Object" "clone" "()Ljava/lang/Object;").before a0 Z = true) (w3 : (Cond.native ⟨"java/lang/Object", "clone", "()Ljava/lang/Object;"⟩).before a0 Z = true)
    (w4 : (Cond.instanceMethod ⟨"java/lang/Object", "clone", "()Ljava/lang/Object;"⟩).before a0 Z = true) (w5 : (Cond.selects ad ⟨ad, "clone", "()Ljava/lang/Object;"⟩ ⟨"java/lang/Object", "clone", "()Ljava/lang/Object;"⟩).before a0 Z = true) (w6 : (Cond.castable ad "java/lang/Cloneable").before a0 Z = true)
    {a : Addr} {cl : Cell} {ty : FieldType} (A : Arr Z h a cl ty) (Ex : Exa Z h a ad) (F : FitC Z cl) (hd : decode k.bytes pc = .ok (.invokevirtual index, 3)) (hm : Ls.size = k.maxL) (hf : 1 ≤ k.rm.frames) (hl : (st.map fun v => v.category).sum + 14 ≤ k.rm.locals) (cap : Nat) (hcap : cl.slots.size ≤ cap) (hc : cells + 1 ≤ k.rm.cells) (hsl : slots + cap ≤ k.rm.slots) (hp : pc + 3 = pc')
    (g : ∀ T' h' b, b = h.size → On k Z n0 E T' h' (cells + 1) (slots + cap) → Ext h h' → Arr Z h' b (cloneOf cl) ty → Exa Z h' b ad → Go E G (Fm E T' pc' Ls (.ref b :: st))) : Go E G (Fm E T pc Ls (.ref a :: st)) := by
  obtain ⟨C, hh, L, a1, b1, ha, hb1, hF, X⟩ := W
  subst hp
  obtain ⟨T', h', X', e', E', A', Q', st'⟩ := cloneA X C.1 C.2.2.2.2.2.2.1 C.2.2.2.1 w1 w2 w3 w4 w5 w6 hh A Ex F (g := mkF E.m pc Ls (.ref a :: st)) rfl (hm.trans C.2.2.1.symm) rfl (hb C.2.1 hd) hf (W := (st.map fun v => v.category).sum) (by show 2 * 0 + _ ≤ _; omega) hl hcap (Nat.le_trans (Nat.add_le_add_right ha 1) hc) (Nat.le_trans (Nat.add_le_add_right hb1 cap) hsl)
  exact (g T' h' _ rfl ⟨C, e', L, _, _, Nat.add_le_add_right ha 1, Nat.add_le_add_right hb1 cap, hF, X'⟩ E' A' Q').step st'
theorem go_lamConst (W : On k Z n0 E T h cells slots) {index : Nat} {sh : Lambda.Shape} (w : (Cond.lambdaSite k.y pc index sh).before a0 Z = true) (hcap : sh.captured = []) (hd : decode k.bytes pc = .ok (.invokedynamic index, 5)) (hm : Ls.size = k.maxL) (hl : (st.map fun v => v.category).sum + 3072 ≤ k.rm.locals) (hp : pc + 5 = pc') (g : ∀ a : Addr, Go E G (Fm E T pc' Ls (.ref a :: st))) : Go E G (Fm E T pc Ls st) := by
  obtain ⟨C, hh, L, a1, b1, ha, hb1, hF, X⟩ := W
  subst hp
  have hZ := C.2.2.2.2.2.2.1
  obtain ⟨cK, one, hat⟩ := Cond.lambdaSite_spec w
  obtain ⟨mD, kD, cfD, i0, p0, lk, hmD, hkD, -, -, -, hfind, -, -, hl'⟩ := State.lambdaAt?_spec hat
  have hn : Z.methodNamed? k.y = some E.m := by
    have q : (Z.setVm E.s.vm).methodNamed? k.y = some E.m := C.2.2.2.2.2.2.2.2
    rw [State.methodNamed?_setVm hZ.alike] at q; exact q
  cases hn.symm.trans hmD
  obtain ⟨k', q1, q2⟩ := hZ.alike.2.2 _ _ hkD
  rcases hl' with ⟨a, cell, rfl, -⟩ | ⟨-, -, hne⟩
  · have hw : E.e.platform.lambdaLinkWords = 3072 := by rw [X.admits.platform]
    exact (g a).step fun t r => X.lambdaConstant C.1 (g := mkF E.m pc Ls st) rfl (hm.trans C.2.2.1.symm) (hb C.2.1 hd) q1 (by rw [q2]; exact hfind) (by rw [hw]; show 2 * 0 + (st.map fun v => v.category).sum + 3072 ≤ _; omega) r
  · exact absurd hcap hne
theorem go_lsw (W : On k Z n0 E T h cells slots) {dflt : Int} {prs : Array (Int × Int)} {len : Nat} {i : Int32} (hd : decode k.bytes pc = .ok (.lookupswitch dflt prs, len)) (hsrt : ∀ a b a_1 b_1 : Int, ((a, b), a_1, b_1) ∈ prs.toList.zip prs.toList.tail → a < a_1) (ho : 0 ≤ (pc : Int) + lookupswitch.offset prs.toList dflt i.toInt) (hp : ((pc : Int) + lookupswitch.offset prs.toList dflt i.toInt).toNat = pc') (g : Go E G (Fm E T pc' Ls st)) : Go E G (Fm E T pc Ls (.int i :: st)) := by
  subst hp
  refine g.step fun t r => ?_
  have q := W.here; have hx := W.exec; have hd' := hb W.bytes hd
  show Steps E.p.tables E.e E.below (T.setTop { method := E.m, pc := pc, locals := Ls, stack := .int i :: st, locked := none }) t
  jvm_step q [q.top, hx, hd', ho, lookupswitch.wp_chain]
  exact ⟨hsrt, r⟩
theorem Sta.kept {h' : Heap} {C n d : String} {v : Value} (S : Sta Z h C n d v) (K : Keep h h' []) : Sta Z h' C n d v := by
  obtain ⟨cf, i, k, f, st, cell, h1, h2, h3, h4, h5, r⟩ := S; exact ⟨cf, i, k, f, st, cell, h1, h2, h3, h4, K.2.1 _ _ h5 nin0, r⟩
theorem Arr.kept {h' : Heap} {a : Addr} {c : Cell} {ty : FieldType} (A : Arr Z h a c ty) (K : Keep h h' []) : Arr Z h' a c ty := ⟨K.2.1 _ _ A.1 nin0, A.2⟩
theorem Keep.ext0 {h' : Heap} {ws : List Addr} (K : Keep h h' ws) (q : ∀ x ∈ ws, h.size ≤ x) : Ext h h' := ⟨K.1, fun a c e => K.2.1 a c e fun y => absurd (Array.getElem?_eq_some_iff.mp e).1 (Nat.not_lt.mpr (q a y))⟩
theorem Keep.nil {h' : Heap} {ws : List Addr} (K : Keep h h' ws) (q : ∀ x ∈ ws, h.size ≤ x) : Keep h h' [] := ⟨K.1, fun a c e _ => (Keep.ext0 K q).2 a c e, K.2.2⟩
/-! an array by a function -/
def Af (Z : State) (h : Heap) (a : Addr) (ty : FieldType) (n : Nat) (f : Nat → Value) : Prop := ∃ c : Cell, Arr Z h a c ty ∧ c.slots.size = n ∧ ∀ i, i < n → c.slots[i]? = some (f i)
theorem Af.lt {a : Addr} {ty : FieldType} {n : Nat} {f : Nat → Value} (F : Af Z h a ty n f) : a < h.size := by obtain ⟨c, A, -⟩ := F; exact A.lt
theorem Af.ext {h' : Heap} {a : Addr} {ty : FieldType} {n : Nat} {f : Nat → Value} (F : Af Z h a ty n f) (X : Ext h h') : Af Z h' a ty n f := by obtain ⟨c, A, r⟩ := F; exact ⟨c, A.ext X, r⟩
theorem Af.other {h' : Heap} {a b : Addr} {sl : Nat} {v : Value} {ty : FieldType} {n : Nat} {f : Nat → Value} (F : Af Z h b ty n f) (W : Wr h h' a sl v) (q : b ≠ a) : Af Z h' b ty n f := by obtain ⟨c, A, r⟩ := F; exact ⟨c, A.other W q, r⟩
theorem Af.keep {h' : Heap} {a : Addr} {ws : List Addr} {ty : FieldType} {n : Nat} {f : Nat → Value} (F : Af Z h a ty n f) (K : Keep h h' ws) (q : a ∉ ws) : Af Z h' a ty n f := by obtain ⟨c, A, r⟩ := F; exact ⟨c, ⟨K.2.1 a c A.1 q, A.2⟩, r⟩
theorem Af.congr {a : Addr} {ty : FieldType} {n : Nat} {f f' : Nat → Value} (F : Af Z h a ty n f) (q : ∀ i, i < n → f i = f' i) : Af Z h a ty n f' := by obtain ⟨c, A, r1, r2⟩ := F; exact ⟨c, A, r1, fun i hi => by rw [r2 i hi, q i hi]⟩
theorem Af.new {a : Addr} {ty : FieldType} {cA : ClassId} {z : Int32} {n : Nat} (A : Arr Z h a (newA cA ty z) ty) (q : z.toNatClampNeg = n) : Af Z h a ty n (fun _ => defaultValue ty) := ⟨_, A, by rw [sz_new]; exact q, fun i hi => by subst q; simp [newA, hi]⟩
theorem Af.set {h' : Heap} {a : Addr} {v : Value} {ty : FieldType} {n : Nat} {f : Nat → Value} {i : Nat} (F : Af Z h a ty n f) (W : Wr h h' a i v) (hi : i < n) : Af Z h' a ty n (fun j => if j = i then v else f j) := by
  obtain ⟨c, A, r1, r2⟩ := F
  refine ⟨_, A.same W, by rw [sz_set]; exact r1, fun j hj => ?_⟩
  by_cases e : j = i
  · subst e; simp [Cell.setSlot, r1, hi]
  · show _ = some (if j = i then v else f j)
    rw [if_neg e, ← r2 j hj]; exact Array.getElem?_setIfInBounds_ne (Ne.symm e)
theorem Af.at {a : Addr} {ty : FieldType} {n : Nat} {f : Nat → Value} {j : Int32} {i : Nat} (F : Af Z h a ty n f) (hj : j.toInt = (i : Int)) (hi : i < n) : j.toNatClampNeg = i ∧ ∃ c : Cell, Arr Z h a c ty ∧ ¬ (j < 0 ∨ c.slots.size ≤ j.toNatClampNeg) ∧ c.slots[j.toNatClampNeg]? = some (f i) := by
  obtain ⟨c, A, r1, r2⟩ := F
  have e : j.toNatClampNeg = i := by simp only [Int32.toNatClampNeg]; omega
  refine ⟨e, c, A, ?_, by rw [e]; exact r2 i hi⟩
  rw [e, r1, Int32.lt_iff_toInt_lt, hj]
  simp only [Int32.reduceToInt]; omega
theorem Af.len {a : Addr} {ty : FieldType} {n : Nat} {f : Nat → Value} (F : Af Z h a ty n f) : ∃ c : Cell, Arr Z h a c ty ∧ c.slots.size = n := by obtain ⟨c, A, r1, -⟩ := F; exact ⟨c, A, r1⟩
theorem Af.fitC {a : Addr} {ty : FieldType} {n : Nat} {f : Nat → Value} (F : Af Z h a ty n f) (q : ∀ i, i < n → fits ty (f i) = true) : ∃ c : Cell, Arr Z h a c ty ∧ c.slots.size = n ∧ FitC Z c ∧ ∀ i, i < n → c.slots[i]? = some (f i) := by
  obtain ⟨c, A, r1, r2⟩ := F
  refine ⟨c, A, r1, fitC_of A fun i hi v hv => ?_, r2⟩
  rw [r1] at hi
  rw [r2 i hi] at hv
  cases hv; exact q i hi
theorem go_cloneF (W : On k Z n0 E T h cells slots) {ad : String} {index : Nat} (w1 : (Cond.methodLink k.y.cls index ⟨ad, "clone", "()Ljava/lang/Object;"⟩).before a0 Z = true) (w2 : (Cond.sameMethod ad "java/lang/Object" "clone" "()Ljava/lang/Object;").before a0 Z = true) (w3 : (Cond.native ⟨"java/lang/Object", "clone", "()Ljava/lang/Object;"⟩).before a0 Z = true)
    (w4 : (Cond.instanceMethod ⟨"java/lang/Object", "clone", "()Ljava/lang/Object;"⟩).before a0 Z = true) (w5 : (Cond.selects ad ⟨ad, "clone", "()Ljava/lang/Object;"⟩ ⟨"java/lang/Object", "clone", "()Ljava/lang/Object;"⟩).before a0 Z = true) (w6 : (Cond.castable ad "java/lang/Cloneable").before a0 Z = true)
    {a : Addr} {ty : FieldType} {n : Nat} {f : Nat → Value} (F : Af Z h a ty n f) (hfit : ∀ i, i < n → fits ty (f i) = true) (Ex : Exa Z h a ad) (hd : decode k.bytes pc = .ok (.invokevirtual index, 3)) (hm : Ls.size = k.maxL) (hf : 1 ≤ k.rm.frames) (hl : (st.map fun v => v.category).sum + 14 ≤ k.rm.locals) (hc : cells + 1 ≤ k.rm.cells) (hsl : slots + n ≤ k.rm.slots) (hp : pc + 3 = pc')
    (g : ∀ T' h' b, b = h.size → On k Z n0 E T' h' (cells + 1) (slots + n) → Ext h h' → Af Z h' b ty n f → Exa Z h' b ad → Go E G (Fm E T' pc' Ls (.ref b :: st))) : Go E G (Fm E T pc Ls (.ref a :: st)) := by
  obtain ⟨c, A, r1, FC, r2⟩ := F.fitC hfit
  exact go_cloneA W w1 w2 w3 w4 w5 w6 A Ex FC hd hm hf hl n (Nat.le_of_eq r1) hc hsl hp fun T' h' b e W' E' A' Q' => g T' h' b e W' E' ⟨_, A', r1, r2⟩ Q'
theorem go_lenF (W : On k Z n0 E T h cells slots) {a : Addr} {ty : FieldType} {n : Nat} {f : Nat → Value} {z : Int32} (F : Af Z h a ty n f) (hz : n.toInt32 = z) (hd : decode k.bytes pc = .ok (.arraylength, 1)) (hp : pc + 1 = pc') (g : Go E G (Fm E T pc' Ls (.int z :: st))) : Go E G (Fm E T pc Ls (.ref a :: st)) := by
  obtain ⟨c, A, r⟩ := F.len
  exact go_arraylength W A (by rw [r]; exact hz) hd hp g
theorem go_stIF (W : On k Z n0 E T h cells slots) {a : Addr} {n : Nat} {f : Nat → Value} {j : Int32} {i : Nat} {x : Int32} (F : Af Z h a .int n f) (hj : j.toInt = (i : Int)) (hi : i < n) (hn0 : n0 ≤ a) (hd : decode k.bytes pc = .ok (.iastore, 1)) (hp : pc + 1 = pc') (g : ∀ T' h', On k Z n0 E T' h' cells slots → Wr h h' a i (.int x) → Af Z h' a .int n (fun j => if j = i then (.int x) else f j) → Go E G (Fm E T' pc' Ls st)) : Go E G (Fm E T pc Ls (.int x :: .int j :: .ref a :: st)) := by
  obtain ⟨e, c, A, q, -⟩ := F.at hj hi
  exact go_stI W A q hn0 hd hp fun T' h' W' R => g T' h' W' (e ▸ R) (F.set (e ▸ R) hi)
theorem go_stJF (W : On k Z n0 E T h cells slots) {a : Addr} {n : Nat} {f : Nat → Value} {j : Int32} {i : Nat} {x : Int64} (F : Af Z h a .long n f) (hj : j.toInt = (i : Int)) (hi : i < n) (hn0 : n0 ≤ a) (hd : decode k.bytes pc = .ok (.lastore, 1)) (hp : pc + 1 = pc') (g : ∀ T' h', On k Z n0 E T' h' cells slots → Wr h h' a i (.long x) → Af Z h' a .long n (fun j => if j = i then (.long x) else f j) → Go E G (Fm E T' pc' Ls st)) : Go E G (Fm E T pc Ls (.long x :: .int j :: .ref a :: st)) := by
  obtain ⟨e, c, A, q, -⟩ := F.at hj hi
  exact go_stJ W A q hn0 hd hp fun T' h' W' R => g T' h' W' (e ▸ R) (F.set (e ▸ R) hi)
theorem go_stCF (W : On k Z n0 E T h cells slots) {a : Addr} {n : Nat} {f : Nat → Value} {j : Int32} {i : Nat} {x : Int32} (F : Af Z h a .char n f) (hj : j.toInt = (i : Int)) (hi : i < n) (hn0 : n0 ≤ a) (hd : decode k.bytes pc = .ok (.castore, 1)) (hp : pc + 1 = pc') (g : ∀ T' h', On k Z n0 E T' h' cells slots → Wr h h' a i (.int (nar .char x)) → Af Z h' a .char n (fun j => if j = i then (.int (nar .char x)) else f j) → Go E G (Fm E T' pc' Ls st)) : Go E G (Fm E T pc Ls (.int x :: .int j :: .ref a :: st)) := by
  obtain ⟨e, c, A, q, -⟩ := F.at hj hi
  exact go_stC W A q hn0 hd hp fun T' h' W' R => g T' h' W' (e ▸ R) (F.set (e ▸ R) hi)
theorem go_stBF (W : On k Z n0 E T h cells slots) {a : Addr} {n : Nat} {f : Nat → Value} {j : Int32} {i : Nat} {x : Int32} (F : Af Z h a .byte n f) (hj : j.toInt = (i : Int)) (hi : i < n) (hn0 : n0 ≤ a) (hd : decode k.bytes pc = .ok (.bastore, 1)) (hp : pc + 1 = pc') (g : ∀ T' h', On k Z n0 E T' h' cells slots → Wr h h' a i (.int (nar .byte x)) → Af Z h' a .byte n (fun j => if j = i then (.int (nar .byte x)) else f j) → Go E G (Fm E T' pc' Ls st)) : Go E G (Fm E T pc Ls (.int x :: .int j :: .ref a :: st)) := by
  obtain ⟨e, c, A, q, -⟩ := F.at hj hi
  exact go_stB W A q hn0 hd hp fun T' h' W' R => g T' h' W' (e ▸ R) (F.set (e ▸ R) hi)
theorem go_stZF (W : On k Z n0 E T h cells slots) {a : Addr} {n : Nat} {f : Nat → Value} {j : Int32} {i : Nat} {x : Int32} (F : Af Z h a .boolean n f) (hj : j.toInt = (i : Int)) (hi : i < n) (hn0 : n0 ≤ a) (hd : decode k.bytes pc = .ok (.bastore, 1)) (hp : pc + 1 = pc') (g : ∀ T' h', On k Z n0 E T' h' cells slots → Wr h h' a i (.int (nar .boolean x)) → Af Z h' a .boolean n (fun j => if j = i then (.int (nar .boolean x)) else f j) → Go E G (Fm E T' pc' Ls st)) : Go E G (Fm E T pc Ls (.int x :: .int j :: .ref a :: st)) := by
  obtain ⟨e, c, A, q, -⟩ := F.at hj hi
  exact go_stZ W A q hn0 hd hp fun T' h' W' R => g T' h' W' (e ▸ R) (F.set (e ▸ R) hi)
theorem go_ialoadF (W : On k Z n0 E T h cells slots) {a : Addr} {n : Nat} {f : Nat → Value} {j : Int32} {i : Nat} {v : Value} (F : Af Z h a .int n f) (hj : j.toInt = (i : Int)) (hi : i < n) (hv : f i = v) (hd : decode k.bytes pc = .ok (.iaload, 1)) (hp : pc + 1 = pc') (g : Go E G (Fm E T pc' Ls (v :: st))) : Go E G (Fm E T pc Ls (.int j :: .ref a :: st)) := by
  obtain ⟨e, c, A, q, r⟩ := F.at hj hi
  exact go_iaload W A q (hv ▸ r) hd hp g
theorem go_laloadF (W : On k Z n0 E T h cells slots) {a : Addr} {n : Nat} {f : Nat → Value} {j : Int32} {i : Nat} {v : Value} (F : Af Z h a .long n f) (hj : j.toInt = (i : Int)) (hi : i < n) (hv : f i = v) (hd : decode k.bytes pc = .ok (.laload, 1)) (hp : pc + 1 = pc') (g : Go E G (Fm E T pc' Ls (v :: st))) : Go E G (Fm E T pc Ls (.int j :: .ref a :: st)) := by
  obtain ⟨e, c, A, q, r⟩ := F.at hj hi
  exact go_laload W A q (hv ▸ r) hd hp g
theorem go_caloadF (W : On k Z n0 E T h cells slots) {a : Addr} {n : Nat} {f : Nat → Value} {j : Int32} {i : Nat} {v : Value} (F : Af Z h a .char n f) (hj : j.toInt = (i : Int)) (hi : i < n) (hv : f i = v) (hd : decode k.bytes pc = .ok (.caload, 1)) (hp : pc + 1 = pc') (g : Go E G (Fm E T pc' Ls (v :: st))) : Go E G (Fm E T pc Ls (.int j :: .ref a :: st)) := by
  obtain ⟨e, c, A, q, r⟩ := F.at hj hi
  exact go_caload W A q (hv ▸ r) hd hp g
theorem go_baloadF (W : On k Z n0 E T h cells slots) {a : Addr} {n : Nat} {f : Nat → Value} {j : Int32} {i : Nat} {v : Value} (F : Af Z h a .byte n f) (hj : j.toInt = (i : Int)) (hi : i < n) (hv : f i = v) (hd : decode k.bytes pc = .ok (.baload, 1)) (hp : pc + 1 = pc') (g : Go E G (Fm E T pc' Ls (v :: st))) : Go E G (Fm E T pc Ls (.int j :: .ref a :: st)) := by
  obtain ⟨e, c, A, q, r⟩ := F.at hj hi
  exact go_baload W A q (hv ▸ r) hd hp g
theorem go_callU (W : On k Z n0 E T h cells slots) {kc : Mt} {y : MethodName} {K owner : String} {index : Nat} {a : Addr} {argsL rest : List Value} {ps : List FieldType} {r : Option FieldType} {Q : Option Value → Heap → Prop} (w1 : (Cond.methodLink k.y.cls index y).before a0 Z = true) (w2 : (Cond.sameMethod y.cls owner y.name y.desc).before a0 Z = true) (w2' : (Cond.declares ⟨owner, y.name, y.desc⟩).before a0 Z = true) (w3 : (Cond.selects K y kc.y).before a0 Z = true) (w4 : (Cond.instanceMethod kc.y).before a0 Z = true) (w5 : (Cond.initialized kc.y.cls).before a0 Z = true) (w6 : (Cond.code kc.y kc.bytes kc.maxL kc.ret).before a0 Z = true)
    (Ex : Exa Z h a K) (c : Ct E.l Z kc (.ref a :: argsL).toArray h n0 Q) (hy : owner ≠ "java/lang/invoke/MethodHandle" ∧ owner ≠ "java/lang/invoke/VarHandle") (hdesc : parseMethodDescriptor y.desc = some ⟨ps, r⟩) (hlen : argsL.length = ps.length) (hst : st = argsL.reverse ++ .ref a :: rest) (hm : Ls.size = k.maxL)
    (hf : kc.rm.frames + 1 ≤ k.rm.frames) (hl : (rest.map fun v => v.category).sum + (kc.maxL + 11) + kc.rm.locals ≤ k.rm.locals) (hcl : cells + kc.rm.cells ≤ k.rm.cells) (hsl : slots + kc.rm.slots ≤ k.rm.slots) (hd : decode k.bytes pc = .ok (.invokevirtual index, 3)) (hp : pc + 3 = pc')
    (g : ∀ v T' h', Q v h' → On k Z n0 E T' h' (cells + kc.rm.cells) (slots + kc.rm.slots) → Go E G (Fm E T' pc' Ls (v.toList ++ rest))) : Go E G (Fm E T pc Ls st) := by
  obtain ⟨C, hh, L, a1, b1, ha, hb1, hF, X⟩ := W
  subst hp
  have hZ := C.2.2.2.2.2.2.1
  obtain ⟨cq, kq, qa, qb, qc⟩ := isOf (T := T) hZ hh Ex
  obtain ⟨v, _, ⟨T', L', k', n'⟩, -, X', ⟨Lc, hQ, l', y', z'⟩, st'⟩ := X.virtualBackUp C.1 (x := y) (y := kc.y) C.2.2.2.1 (mvT hZ w1) (mvT hZ w2) (mvT hZ w2') hy (mvT hZ w3) (mvT hZ w4) (c.back (k := k) (W := (rest.map fun v => v.category).sum) hZ w6 w5 hf hl) qa qc (g := mkF E.m pc Ls st) rfl (hm.trans C.2.2.1.symm) (Steps.refl _) (argsL := argsL) (rest := rest) (lenOf hdesc hlen) hst (by show 2 * 0 + _ ≤ _; omega) (hb C.2.1 hd) (fun _ _ => ⟨rfl, hh, Nat.le_trans (Nat.add_le_add_right ha _) hcl, Nat.le_trans (Nat.add_le_add_right hb1 _) hsl⟩)
  dsimp only [Pt.U, Pt.locs, Pt.cells, Pt.slots] at X' l' y' z' st' hQ
  subst l' y' z'
  exact (g v T' _ hQ.1 ⟨C, rfl, _, _, _, Nat.add_le_add_right ha _, Nat.add_le_add_right hb1 _, Fr.app hF hQ.2, X'⟩).step fun t q => st'.trans q
theorem go_callP (W : On k Z n0 E T h cells slots) {kc : Mt} {index : Nat} {a : Addr} {K : String} {argsL rest : List Value} {ps : List FieldType} {r : Option FieldType} {Q : Option Value → Heap → Prop} (w1 : (Cond.methodLink k.y.cls index kc.y).before a0 Z = true) (w2 : (Cond.instanceMethod kc.y).before a0 Z = true) (w3 : (Cond.selects kc.y.cls kc.y kc.y).before a0 Z = true) (w4 : (Cond.privateMethod kc.y).before a0 Z = true) (w5 : (Cond.initialized kc.y.cls).before a0 Z = true) (w6 : (Cond.code kc.y kc.bytes kc.maxL kc.ret).before a0 Z = true)
    (Ex : Exa Z h a K) (c : Ct E.l Z kc (.ref a :: argsL).toArray h n0 Q) (hy : kc.y.cls ≠ "java/lang/invoke/MethodHandle" ∧ kc.y.cls ≠ "java/lang/invoke/VarHandle") (hdesc : parseMethodDescriptor kc.y.desc = some ⟨ps, r⟩) (hlen : argsL.length = ps.length) (hst : st = argsL.reverse ++ .ref a :: rest) (hm : Ls.size = k.maxL)
    (hf : kc.rm.frames + 1 ≤ k.rm.frames) (hl : (rest.map fun v => v.category).sum + (kc.maxL + 11) + kc.rm.locals ≤ k.rm.locals) (hcl : cells + kc.rm.cells ≤ k.rm.cells) (hsl : slots + kc.rm.slots ≤ k.rm.slots) (hd : decode k.bytes pc = .ok (.invokevirtual index, 3)) (hp : pc + 3 = pc')
    (g : ∀ v T' h', Q v h' → On k Z n0 E T' h' (cells + kc.rm.cells) (slots + kc.rm.slots) → Go E G (Fm E T' pc' Ls (v.toList ++ rest))) : Go E G (Fm E T pc Ls st) := by
  obtain ⟨C, hh, L, a1, b1, ha, hb1, hF, X⟩ := W
  subst hp
  have hZ := C.2.2.2.2.2.2.1
  obtain ⟨cq, q1, q2⟩ := Ex.cell
  obtain ⟨v, _, ⟨T', L', k', n'⟩, -, X', ⟨Lc, hQ, l', y', z'⟩, st'⟩ := X.privateBack C.1 (y := kc.y) C.2.2.2.1 (mvT hZ w1) (mvT hZ w2) (mvT hZ w3) (Cond.privateMethod_at (mvP hZ w4 (args := #[]))) (mvT hZ w6) hy (c.back (k := k) (W := (rest.map fun v => v.category).sum) hZ w6 w5 hf hl) (g := mkF E.m pc Ls st) rfl (hm.trans C.2.2.1.symm) (Steps.refl _) (a := a) (by rw [hh]; exact q1) q2 (argsL := argsL) (rest := rest) (lenOf hdesc hlen) hst (by show 2 * 0 + _ ≤ _; omega) (hb C.2.1 hd) (fun _ _ => ⟨rfl, hh, Nat.le_trans (Nat.add_le_add_right ha _) hcl, Nat.le_trans (Nat.add_le_add_right hb1 _) hsl⟩)
  dsimp only [Pt.U, Pt.locs, Pt.cells, Pt.slots] at X' l' y' z' st' hQ
  subst l' y' z'
  exact (g v T' _ hQ.1 ⟨C, rfl, _, _, _, Nat.add_le_add_right ha _, Nat.add_le_add_right hb1 _, Fr.app hF hQ.2, X'⟩).step fun t q => st'.trans q
theorem go_callF (W : On k Z n0 E T h cells slots) {kc : Mt} {y : MethodName} {K : String} {index count : Nat} {a : Addr} {argsL rest : List Value} {ps : List FieldType} {r : Option FieldType} {Q : Option Value → Heap → Prop} (w1 : (Cond.methodLink k.y.cls index y).before a0 Z = true) (w2 : (Cond.declares y).before a0 Z = true) (w2' : (Cond.interfaceMethod y.cls y.cls y.name y.desc).before a0 Z = true) (w3 : (Cond.selects K y kc.y).before a0 Z = true) (w4 : (Cond.instanceMethod kc.y).before a0 Z = true) (w4' : (Cond.publicMethod kc.y).before a0 Z = true) (w4'' : (Cond.unhidden K y.name y.desc).before a0 Z = true) (wk : (Cond.castable K y.cls).before a0 Z = true) (w5 : (Cond.initialized kc.y.cls).before a0 Z = true) (w6 : (Cond.code kc.y kc.bytes kc.maxL kc.ret).before a0 Z = true)
    (Ex : Exa Z h a K) (c : Ct E.l Z kc (.ref a :: argsL).toArray h n0 Q) (hy : y.cls ≠ "java/lang/invoke/MethodHandle" ∧ y.cls ≠ "java/lang/invoke/VarHandle") (hdesc : parseMethodDescriptor y.desc = some ⟨ps, r⟩) (hlen : argsL.length = ps.length) (hst : st = argsL.reverse ++ .ref a :: rest) (hm : Ls.size = k.maxL)
    (hf : kc.rm.frames + 1 ≤ k.rm.frames) (hl : (rest.map fun v => v.category).sum + (kc.maxL + 11) + kc.rm.locals ≤ k.rm.locals) (hcl : cells + kc.rm.cells ≤ k.rm.cells) (hsl : slots + kc.rm.slots ≤ k.rm.slots) (hd : decode k.bytes pc = .ok (.invokeinterface index count, 5)) (hp : pc + 5 = pc')
    (g : ∀ v T' h', Q v h' → On k Z n0 E T' h' (cells + kc.rm.cells) (slots + kc.rm.slots) → Go E G (Fm E T' pc' Ls (v.toList ++ rest))) : Go E G (Fm E T pc Ls st) := by
  obtain ⟨C, hh, L, a1, b1, ha, hb1, hF, X⟩ := W
  subst hp
  have hZ := C.2.2.2.2.2.2.1
  obtain ⟨cq, kq, qa, qb, qc⟩ := isOf (T := T) hZ hh Ex
  obtain ⟨v, _, ⟨T', L', k', n'⟩, -, X', ⟨Lc, hQ, l', y', z'⟩, st'⟩ := X.interfaceBack C.1 (xi := y) (y := kc.y) C.2.2.2.1 (mvT hZ w1) (mvT hZ w2) (mvT hZ w2' (by simp [Cond.onTables, Cond.keepsFace, Cond.keeps, Cond.steady, Cond.faceAtom, hy.1, hy.2])) (mvT hZ w3) (mvT hZ w4) (mvT hZ w4') (mvT hZ w4'') (mvT hZ wk) hy (c.back (k := k) (W := (rest.map fun v => v.category).sum) hZ w6 w5 hf hl) qa qb qc (g := mkF E.m pc Ls st) rfl (hm.trans C.2.2.1.symm) (Steps.refl _) (argsL := argsL) (rest := rest) (lenOf hdesc hlen) hst (by show 2 * 0 + _ ≤ _; omega) (hb C.2.1 hd) (fun _ _ => ⟨rfl, hh, Nat.le_trans (Nat.add_le_add_right ha _) hcl, Nat.le_trans (Nat.add_le_add_right hb1 _) hsl⟩)
  dsimp only [Pt.U, Pt.locs, Pt.cells, Pt.slots] at X' l' y' z' st' hQ
  subst l' y' z'
  exact (g v T' _ hQ.1 ⟨C, rfl, _, _, _, Nat.add_le_add_right ha _, Nat.add_le_add_right hb1 _, Fr.app hF hQ.2, X'⟩).step fun t q => st'.trans q
end
end Jvm.GoKit
namespace Jvm.Pilot.@@N@@
open Jvm Jvm.ClassFile Sem Op Lib Jvm.Free Jvm.Stand Jvm.LawKit Jvm.RoadKit Bundle Jvm.GoKit Jvm.Pilot.@@N@@.Jvm.D
abbrev Hw (a0 : Array Value) (Z : State) : Prop := ∀ d ∈ tables_1, d.before a0 Z = true
theorem w0 {a0 : Array Value} {Z : State} (hw : Hw a0 Z) : (Jvm.Cond.constant "com/example/bramble_tree/brambletree/io/CompressionDetectPinLaw" (7 : Nat) (2147483647 : Int32)).before a0 Z = true := hw _ (List.mem_of_getElem? (i := 0) rfl)
theorem w1 {a0 : Array Value} {Z : State} (hw : Hw a0 Z) : (Jvm.Cond.methodLink "com/example/bramble_tree/brambletree/io/CompressionDetectPinLaw" (8 : Nat) ({ cls := "com/example/bramble_tree/brambletree/io/Compression", name := "detect", desc := "(II)Lcom/example/bramble_tree/brambletree/io/Compression;" } : Jvm.MethodName)).before a0 Z = true := hw _ (List.mem_of_getElem? (i := 1) rfl)
theorem w2 {a0 : Array Value} {Z : State} (hw : Hw a0 Z) : (Jvm.Cond.static ({ cls := "com/example/bramble_tree/brambletree/io/Compression", name := "detect", desc := "(II)Lcom/example/bramble_tree/brambletree/io/Compression;" } : Jvm.MethodName)).before a0 Z = true := hw _ (List.mem_of_getElem? (i := 2) rfl)
theorem w3 {a0 : Array Value} {Z : State} (hw : Hw a0 Z) : (Jvm.Cond.initialized "com/example/bramble_tree/brambletree/io/Compression").before a0 Z = true := hw _ (List.mem_of_getElem? (i := 3) rfl)
theorem w4 {a0 : Array Value} {Z : State} (hw : Hw a0 Z) : (Jvm.Cond.code ({ cls := "com/example/bramble_tree/brambletree/io/Compression", name := "detect", desc := "(II)Lcom/example/bramble_tree/brambletree/io/Compression;" } : Jvm.MethodName) prog_2_method_4_code (2 : Nat) (Option.some (Jvm.ClassFile.FieldType.object "com/example/bramble_tree/brambletree/io/Compression"))).before a0 Z = true := hw _ (List.mem_of_getElem? (i := 4) rfl)
theorem w5 {a0 : Array Value} {Z : State} (hw : Hw a0 Z) : (Jvm.Cond.fieldLink "com/example/bramble_tree/brambletree/io/Compression" (3 : Nat) "com/example/bramble_tree/brambletree/io/Compression" "NONE" "Lcom/example/bramble_tree/brambletree/io/Compression;").before a0 Z = true := hw _ (List.mem_of_getElem? (i := 5) rfl)
theorem w6 {a0 : Array Value} {Z : State} (hw : Hw a0 Z) : (Jvm.Cond.laysStatic "com/example/bramble_tree/brambletree/io/Compression" "NONE" "Lcom/example/bramble_tree/brambletree/io/Compression;").before a0 Z = true := hw _ (List.mem_of_getElem? (i := 6) rfl)
theorem w7 {a0 : Array Value} {Z : State} (hw : Hw a0 Z) : (Jvm.Cond.fieldLink "com/example/bramble_tree/brambletree/io/CompressionDetectPinLaw" (21 : Nat) "com/example/bramble_tree/brambletree/io/Compression" "NONE" "Lcom/example/bramble_tree/brambletree/io/Compression;").before a0 Z = true := hw _ (List.mem_of_getElem? (i := 7) rfl)
theorem w8 {a0 : Array Value} {Z : State} (hw : Hw a0 Z) : (Jvm.Cond.fieldLink "com/example/bramble_tree/brambletree/io/Compression" (10 : Nat) "com/example/bramble_tree/brambletree/io/Compression" "ZLIB" "Lcom/example/bramble_tree/brambletree/io/Compression;").before a0 Z = true := hw _ (List.mem_of_getElem? (i := 8) rfl)
theorem w9 {a0 : Array Value} {Z : State} (hw : Hw a0 Z) : (Jvm.Cond.laysStatic "com/example/bramble_tree/brambletree/io/Compression" "ZLIB" "Lcom/example/bramble_tree/brambletree/io/Compression;").before a0 Z = true := hw _ (List.mem_of_getElem? (i := 9) rfl)
theorem w10 {a0 : Array Value} {Z : State} (hw : Hw a0 Z) : (Jvm.Cond.fieldLink "com/example/bramble_tree/brambletree/io/CompressionDetectPinLaw" (18 : Nat) "com/example/bramble_tree/brambletree/io/Compression" "ZLIB" "Lcom/example/bramble_tree/brambletree/io/Compression;").before a0 Z = true := hw _ (List.mem_of_getElem? (i := 10) rfl)
theorem w11 {a0 : Array Value} {Z : State} (hw : Hw a0 Z) : (Jvm.Cond.fieldLink "com/example/bramble_tree/brambletree/io/Compression" (7 : Nat) "com/example/bramble_tree/brambletree/io/Compression" "GZIP" "Lcom/example/bramble_tree/brambletree/io/Compression;").before a0 Z = true := hw _ (List.mem_of_getElem? (i := 11) rfl)
theorem w12 {a0 : Array Value} {Z : State} (hw : Hw a0 Z) : (Jvm.Cond.laysStatic "com/example/bramble_tree/brambletree/io/Compression" "GZIP" "Lcom/example/bramble_tree/brambletree/io/Compression;").before a0 Z = true := hw _ (List.mem_of_getElem? (i := 12) rfl)
theorem w13 {a0 : Array Value} {Z : State} (hw : Hw a0 Z) : (Jvm.Cond.fieldLink "com/example/bramble_tree/brambletree/io/CompressionDetectPinLaw" (14 : Nat) "com/example/bramble_tree/brambletree/io/Compression" "GZIP" "Lcom/example/bramble_tree/brambletree/io/Compression;").before a0 Z = true := hw _ (List.mem_of_getElem? (i := 13) rfl)
theorem pd0 : parseMethodDescriptor "(II)Lcom/example/bramble_tree/brambletree/io/Compression;" = some ⟨[.int, .int], some (.object "com/example/bramble_tree/brambletree/io/Compression")⟩ := by decide +kernel
abbrev K0 : Mt := (x, code, maxLocals, ret, room_1)
def K1 : Mt := (⟨"com/example/bramble_tree/brambletree/io/Compression", "detect", "(II)Lcom/example/bramble_tree/brambletree/io/Compression;"⟩, prog_2_method_4_code, 2, some (.object "com/example/bramble_tree/brambletree/io/Compression"), ⟨0, 0, 0, 0⟩)
theorem d0_0 : decode K0.bytes 0 = .ok (.iload_n 0, 1) := at_0
theorem d0_1 : decode K0.bytes 1 = .ok (.ldc 7, 2) := at_1
theorem d0_3 : decode K0.bytes 3 = .ok (.iand, 1) := at_3
theorem d0_4 : decode K0.bytes 4 = .ok (.sipush 257, 3) := at_4
theorem d0_7 : decode K0.bytes 7 = .ok (.irem, 1) := at_7
theorem d0_8 : decode K0.bytes 8 = .ok (.iconst 1, 1) := at_8
theorem d0_9 : decode K0.bytes 9 = .ok (.isub, 1) := at_9
theorem d0_10 : decode K0.bytes 10 = .ok (.istore_n 3, 1) := at_10
theorem d0_11 : decode K0.bytes 11 = .ok (.iload_n 1, 1) := at_11
theorem d0_12 : decode K0.bytes 12 = .ok (.ldc 7, 2) := at_12
theorem d0_14 : decode K0.bytes 14 = .ok (.iand, 1) := at_14
theorem d0_15 : decode K0.bytes 15 = .ok (.sipush 257, 3) := at_15
theorem d0_18 : decode K0.bytes 18 = .ok (.irem, 1) := at_18
theorem d0_19 : decode K0.bytes 19 = .ok (.iconst 1, 1) := at_19
theorem d0_20 : decode K0.bytes 20 = .ok (.isub, 1) := at_20
theorem d0_21 : decode K0.bytes 21 = .ok (.istore 4, 2) := at_21
theorem d0_23 : decode K0.bytes 23 = .ok (.iload_n 2, 1) := at_23
theorem d0_24 : decode K0.bytes 24 = .ok (.iconst 3, 1) := at_24
theorem d0_25 : decode K0.bytes 25 = .ok (.iand, 1) := at_25
theorem d0_26 : decode K0.bytes 26 = .ok (.istore 5, 2) := at_26
theorem d0_28 : decode K0.bytes 28 = .ok (.iload 5, 2) := at_28
theorem d0_30 : decode K0.bytes 30 = .ok (.ifCond .ne 9, 3) := at_30
theorem d0_33 : decode K0.bytes 33 = .ok (.bipush 31, 2) := at_33
theorem d0_35 : decode K0.bytes 35 = .ok (.istore_n 3, 1) := at_35
theorem d0_36 : decode K0.bytes 36 = .ok (.goto 12, 3) := at_36
theorem d0_39 : decode K0.bytes 39 = .ok (.iload 5, 2) := at_39
theorem d0_41 : decode K0.bytes 41 = .ok (.iconst 1, 1) := at_41
theorem d0_42 : decode K0.bytes 42 = .ok (.if_icmp .ne 6, 3) := at_42
theorem d0_45 : decode K0.bytes 45 = .ok (.bipush 120, 2) := at_45
theorem d0_47 : decode K0.bytes 47 = .ok (.istore_n 3, 1) := at_47
theorem d0_48 : decode K0.bytes 48 = .ok (.iload_n 2, 1) := at_48
theorem d0_49 : decode K0.bytes 49 = .ok (.iconst 2, 1) := at_49
theorem d0_50 : decode K0.bytes 50 = .ok (.iushr, 1) := at_50
theorem d0_51 : decode K0.bytes 51 = .ok (.iconst 3, 1) := at_51
theorem d0_52 : decode K0.bytes 52 = .ok (.iand, 1) := at_52
theorem d0_53 : decode K0.bytes 53 = .ok (.istore 6, 2) := at_53
theorem d0_55 : decode K0.bytes 55 = .ok (.iload 6, 2) := at_55
theorem d0_57 : decode K0.bytes 57 = .ok (.ifCond .ne 11, 3) := at_57
theorem d0_60 : decode K0.bytes 60 = .ok (.sipush 139, 3) := at_60
theorem d0_63 : decode K0.bytes 63 = .ok (.istore 4, 2) := at_63
theorem d0_65 : decode K0.bytes 65 = .ok (.goto 23, 3) := at_65
theorem d0_68 : decode K0.bytes 68 = .ok (.iload 6, 2) := at_68
theorem d0_70 : decode K0.bytes 70 = .ok (.iconst 1, 1) := at_70
theorem d0_71 : decode K0.bytes 71 = .ok (.if_icmp .ne 17, 3) := at_71
theorem d0_74 : decode K0.bytes 74 = .ok (.iload_n 1, 1) := at_74
theorem d0_75 : decode K0.bytes 75 = .ok (.ldc 7, 2) := at_75
theorem d0_77 : decode K0.bytes 77 = .ok (.iand, 1) := at_77
theorem d0_78 : decode K0.bytes 78 = .ok (.bipush 9, 2) := at_78
theorem d0_80 : decode K0.bytes 80 = .ok (.irem, 1) := at_80
theorem d0_81 : decode K0.bytes 81 = .ok (.bipush 31, 2) := at_81
theorem d0_83 : decode K0.bytes 83 = .ok (.imul, 1) := at_83
theorem d0_84 : decode K0.bytes 84 = .ok (.iconst 1, 1) := at_84
theorem d0_85 : decode K0.bytes 85 = .ok (.iadd, 1) := at_85
theorem d0_86 : decode K0.bytes 86 = .ok (.istore 4, 2) := at_86
theorem d0_88 : decode K0.bytes 88 = .ok (.iload_n 3, 1) := at_88
theorem d0_89 : decode K0.bytes 89 = .ok (.iload 4, 2) := at_89
theorem d0_91 : decode K0.bytes 91 = .ok (.invokestatic 8, 3) := at_91
theorem d0_94 : decode K0.bytes 94 = .ok (.astore 7, 2) := at_94
theorem d0_96 : decode K0.bytes 96 = .ok (.iload_n 3, 1) := at_96
theorem d0_97 : decode K0.bytes 97 = .ok (.bipush 31, 2) := at_97
theorem d0_99 : decode K0.bytes 99 = .ok (.if_icmp .ne 19, 3) := at_99
theorem d0_102 : decode K0.bytes 102 = .ok (.iload 4, 2) := at_102
theorem d0_104 : decode K0.bytes 104 = .ok (.sipush 139, 3) := at_104
theorem d0_107 : decode K0.bytes 107 = .ok (.if_icmp .ne 11, 3) := at_107
theorem d0_110 : decode K0.bytes 110 = .ok (.getstatic 14, 3) := at_110
theorem d0_113 : decode K0.bytes 113 = .ok (.astore 8, 2) := at_113
theorem d0_115 : decode K0.bytes 115 = .ok (.goto 36, 3) := at_115
theorem d0_118 : decode K0.bytes 118 = .ok (.iload_n 3, 1) := at_118
theorem d0_119 : decode K0.bytes 119 = .ok (.bipush 120, 2) := at_119
theorem d0_121 : decode K0.bytes 121 = .ok (.if_icmp .ne 25, 3) := at_121
theorem d0_124 : decode K0.bytes 124 = .ok (.iload 4, 2) := at_124
theorem d0_126 : decode K0.bytes 126 = .ok (.ifCond .lt 20, 3) := at_126
theorem d0_129 : decode K0.bytes 129 = .ok (.iload 4, 2) := at_129
theorem d0_131 : decode K0.bytes 131 = .ok (.bipush 31, 2) := at_131
theorem d0_133 : decode K0.bytes 133 = .ok (.irem, 1) := at_133
theorem d0_134 : decode K0.bytes 134 = .ok (.iconst 1, 1) := at_134
theorem d0_135 : decode K0.bytes 135 = .ok (.if_icmp .ne 11, 3) := at_135
theorem d0_138 : decode K0.bytes 138 = .ok (.getstatic 18, 3) := at_138
theorem d0_141 : decode K0.bytes 141 = .ok (.astore 8, 2) := at_141
theorem d0_143 : decode K0.bytes 143 = .ok (.goto 8, 3) := at_143
theorem d0_146 : decode K0.bytes 146 = .ok (.getstatic 21, 3) := at_146
theorem d0_149 : decode K0.bytes 149 = .ok (.astore 8, 2) := at_149
theorem d0_151 : decode K0.bytes 151 = .ok (.aload 7, 2) := at_151
theorem d0_153 : decode K0.bytes 153 = .ok (.aload 8, 2) := at_153
theorem d0_155 : decode K0.bytes 155 = .ok (.if_acmp .ne 7, 3) := at_155
theorem d0_158 : decode K0.bytes 158 = .ok (.iconst 1, 1) := at_158
theorem d0_159 : decode K0.bytes 159 = .ok (.goto 4, 3) := at_159
theorem d0_163 : decode K0.bytes 163 = .ok (.ireturn, 1) := at_163
theorem d1_0 : decode K1.bytes 0 = .ok (.iload_n 0, 1) := by decide +kernel
theorem d1_1 : decode K1.bytes 1 = .ok (.bipush 31, 2) := by decide +kernel
theorem d1_3 : decode K1.bytes 3 = .ok (.if_icmp .ne 14, 3) := by decide +kernel
theorem d1_6 : decode K1.bytes 6 = .ok (.iload_n 1, 1) := by decide +kernel
theorem d1_7 : decode K1.bytes 7 = .ok (.sipush 139, 3) := by decide +kernel
theorem d1_10 : decode K1.bytes 10 = .ok (.if_icmp .ne 7, 3) := by decide +kernel
theorem d1_13 : decode K1.bytes 13 = .ok (.getstatic 7, 3) := by decide +kernel
theorem d1_16 : decode K1.bytes 16 = .ok (.areturn, 1) := by decide +kernel
theorem d1_17 : decode K1.bytes 17 = .ok (.iload_n 0, 1) := by decide +kernel
theorem d1_18 : decode K1.bytes 18 = .ok (.bipush 120, 2) := by decide +kernel
theorem d1_20 : decode K1.bytes 20 = .ok (.if_icmp .ne 19, 3) := by decide +kernel
theorem d1_23 : decode K1.bytes 23 = .ok (.iload_n 0, 1) := by decide +kernel
theorem d1_24 : decode K1.bytes 24 = .ok (.bipush 8, 2) := by decide +kernel
theorem d1_26 : decode K1.bytes 26 = .ok (.ishl, 1) := by decide +kernel
theorem d1_27 : decode K1.bytes 27 = .ok (.iload_n 1, 1) := by decide +kernel
theorem d1_28 : decode K1.bytes 28 = .ok (.ior, 1) := by decide +kernel
theorem d1_29 : decode K1.bytes 29 = .ok (.bipush 31, 2) := by decide +kernel
theorem d1_31 : decode K1.bytes 31 = .ok (.irem, 1) := by decide +kernel
theorem d1_32 : decode K1.bytes 32 = .ok (.ifCond .ne 7, 3) := by decide +kernel
theorem d1_35 : decode K1.bytes 35 = .ok (.getstatic 10, 3) := by decide +kernel
theorem d1_38 : decode K1.bytes 38 = .ok (.areturn, 1) := by decide +kernel
theorem d1_39 : decode K1.bytes 39 = .ok (.getstatic 3, 3) := by decide +kernel
theorem d1_42 : decode K1.bytes 42 = .ok (.areturn, 1) := by decide +kernel
def own_det (p q : Int32) (g z n : Addr) : Addr := if p = 31 ∧ q = 139 then g else if p = 120 ∧ ((p <<< ((8 : Int32) &&& 31)) ||| q) % 31 = 0 then z else n
def own_want (p q : Int32) (g z n : Addr) : Addr := if p = 31 ∧ q = 139 then g else if p = 120 ∧ ¬ q < 0 ∧ q % 31 = 1 then z else n
theorem own_low : ∀ i : Fin 257, decide ((((120 : Int32) <<< ((8 : Int32) &&& 31)) ||| (Int32.ofInt ((i.val : Int) - 1))) % 31 = 0) = decide (¬ (Int32.ofInt ((i.val : Int) - 1)) < 0 ∧ (Int32.ofInt ((i.val : Int) - 1)) % 31 = 1) := by decide +kernel
theorem own_key (q : Int32) (h : -1 ≤ q.toInt ∧ q.toInt ≤ 255) : (((120 : Int32) <<< ((8 : Int32) &&& 31)) ||| q) % 31 = 0 ↔ (¬ q < 0 ∧ q % 31 = 1) := by
  have e : q = Int32.ofInt (((q.toInt + 1).toNat : Int) - 1) := by
    have : ((q.toInt + 1).toNat : Int) - 1 = q.toInt := by omega
    rw [this, Int32.ofInt_toInt]
  have k := own_low ⟨(q.toInt + 1).toNat, by omega⟩
  dsimp only at k
  rw [← e] at k
  exact decide_eq_decide.mp k
theorem own_eq (p q : Int32) (g z n : Addr) (h : -1 ≤ q.toInt ∧ q.toInt ≤ 255) : own_det p q g z n = own_want p q g z n := by
  unfold own_det own_want
  by_cases e : p = 120
  · subst e; simp only [own_key q h]
  · simp only [e, false_and]
theorem own_b257 (x : Int32) : -1 ≤ ((x &&& 2147483647) % 257 - 1).toInt ∧ ((x &&& 2147483647) % 257 - 1).toInt ≤ 255 := by
  have h1 := (c_and x 2147483647 (by decide)).1
  have h2 := (c_irem (x &&& 2147483647) 257 257 rfl).1 h1
  have h3 := c_isub ((x &&& 2147483647) % 257) 1
  have h4 := rng32 ((x &&& 2147483647) % 257 - 1)
  simp only [Int32.reduceToInt] at h3
  omega
theorem own_b9 (x : Int32) : -1 ≤ ((x &&& 2147483647) % 9 * 31 + 1).toInt ∧ ((x &&& 2147483647) % 9 * 31 + 1).toInt ≤ 255 := by
  have h1 := (c_and x 2147483647 (by decide)).1
  have h2 := (c_irem (x &&& 2147483647) 9 9 rfl).1 h1
  have h3 := c_imul ((x &&& 2147483647) % 9) 31
  have h4 := rng32 ((x &&& 2147483647) % 9 * 31)
  have h5 := c_iadd ((x &&& 2147483647) % 9 * 31) 1
  have h6 := rng32 ((x &&& 2147483647) % 9 * 31 + 1)
  have e31 : (31 : Int32).toInt = 31 := by decide
  have e1 : (1 : Int32).toInt = 1 := by decide
  rw [e31] at h3; rw [e1] at h5
  have h7 : ((x &&& 2147483647) % 9 * 31).toInt = ((x &&& 2147483647) % 9).toInt * 31 := by omega
  rw [h7] at h5
  generalize ((x &&& 2147483647) % 9).toInt = a at h2 h5 h7 ⊢
  have ha : 0 ≤ a ∧ a ≤ 8 := by omega
  have hb : 0 ≤ 31 * a ∧ 31 * a ≤ 248 := by omega
  generalize ((x &&& 2147483647) % 9 * 31 + 1).toInt = z at h5 h6 ⊢
  have hz : z = a * 31 + 1 := by omega
  omega
set_option maxRecDepth 65536 in
set_option maxHeartbeats 4000000 in
theorem rm1 (l : Launch) (Z : State) (a0 : Array Value) (hw : Hw a0 Z) (p : Int32) (q : Int32) (g z n : Addr) (h0 : Heap) (n0 : Nat) (Z0 : n0 ≤ h0.size) (Sg : Sta Z h0 "com/example/bramble_tree/brambletree/io/Compression" "GZIP" "Lcom/example/bramble_tree/brambletree/io/Compression;" (.ref g)) (Sz : Sta Z h0 "com/example/bramble_tree/brambletree/io/Compression" "ZLIB" "Lcom/example/bramble_tree/brambletree/io/Compression;" (.ref z)) (Sn : Sta Z h0 "com/example/bramble_tree/brambletree/io/Compression" "NONE" "Lcom/example/bramble_tree/brambletree/io/Compression;" (.ref n)) :
    Ct l Z K1 #[(.int p), (.int q)] h0 n0 (fun v h => v = some (.ref (own_det p q g z n)) ∧ h = h0) := by
  refine Ct.of (Ls := #[.val (.int p), .val (.int q)]) (plainFor_of_name (by first | decide +kernel | (simp [plainName, overriddenIn]; done))) (fun m => by first | rfl | (simp [entryFrame, mkF, argsToLocals, Value.category]; done)) ?_
  intro E T W
  refine go_iloadN (pc' := 1) W d1_0 rfl rfl ?_
  refine go_bipush (pc' := 3) (z := 31) W d1_1 (by decide) rfl ?_
  refine go_icmp_ne (pt := 17) (pf := 6) W d1_3 (by decide) rfl rfl (fun c3_1 => ?_) (fun c3_1 => ?_)
  · -- pc 3 taken
    refine go_iloadN (pc' := 18) W d1_17 rfl rfl ?_
    refine go_bipush (pc' := 20) (z := 120) W d1_18 (by decide) rfl ?_
    refine go_icmp_ne (pt := 39) (pf := 23) W d1_20 (by decide) rfl rfl (fun c20_2 => ?_) (fun c20_2 => ?_)
    · -- pc 20 taken
      refine go_getS (pc' := 42) W (host := "") (Or.inl (w5 hw)) Via.refl Sn d1_39 rfl ?_
      intro T3 W3
      exact go_retA W3 (t := (.object "com/example/bramble_tree/brambletree/io/Compression")) rfl rfl rfl rfl d1_42 (nb rfl) (nb rfl) (⟨by rw [own_det, if_neg (fun h => c3_1 h.1), if_neg (fun h => c20_2 h.1)], rfl⟩)
    · -- pc 20 not taken
      refine go_iloadN (pc' := 24) W d1_23 rfl rfl ?_
      refine go_bipush (pc' := 26) (z := 8) W d1_24 (by decide) rfl ?_
      refine go_ishl (pc' := 27) W d1_26 rfl ?_
      refine go_iloadN (pc' := 28) W d1_27 rfl rfl ?_
      refine go_ior (pc' := 29) W d1_28 rfl ?_
      refine go_bipush (pc' := 31) (z := 31) W d1_29 (by decide) rfl ?_
      refine go_irem (pc' := 32) W d1_31 (by decide) rfl ?_
      refine go_if_ne (pt := 39) (pf := 35) W d1_32 (by decide) rfl rfl (fun c32_4 => ?_) (fun c32_4 => ?_)
      · -- pc 32 taken
        refine go_getS (pc' := 42) W (host := "") (Or.inl (w5 hw)) Via.refl Sn d1_39 rfl ?_
        intro T5 W5
        exact go_retA W5 (t := (.object "com/example/bramble_tree/brambletree/io/Compression")) rfl rfl rfl rfl d1_42 (nb rfl) (nb rfl) (⟨by rw [own_det, if_neg (fun h => c3_1 h.1), if_neg (fun h => c32_4 h.2)], rfl⟩)
      · -- pc 32 not taken
        refine go_getS (pc' := 38) W (host := "") (Or.inl (w8 hw)) Via.refl Sz d1_35 rfl ?_
        intro T6 W6
        exact go_retA W6 (t := (.object "com/example/bramble_tree/brambletree/io/Compression")) rfl rfl rfl rfl d1_38 (nb rfl) (nb rfl) (⟨by rw [own_det, if_neg (fun h => c3_1 h.1), if_pos ⟨c20_2, c32_4⟩], rfl⟩)
  · -- pc 3 not taken
    refine go_iloadN (pc' := 7) W d1_6 rfl rfl ?_
    refine go_sipush (pc' := 10) (z := 139) W d1_7 (by decide) rfl ?_
    refine go_icmp_ne (pt := 17) (pf := 13) W d1_10 (by decide) rfl rfl (fun c10_7 => ?_) (fun c10_7 => ?_)
    · -- pc 10 taken
      refine go_iloadN (pc' := 18) W d1_17 rfl rfl ?_
      refine go_bipush (pc' := 20) (z := 120) W d1_18 (by decide) rfl ?_
      refine go_icmp_ne (pt := 39) (pf := 23) W d1_20 (by decide) rfl rfl (fun c20_8 => ?_) (fun c20_8 => ?_)
      · -- pc 20 taken
        refine go_getS (pc' := 42) W (host := "") (Or.inl (w5 hw)) Via.refl Sn d1_39 rfl ?_
        intro T9 W9
        exact go_retA W9 (t := (.object "com/example/bramble_tree/brambletree/io/Compression")) rfl rfl rfl rfl d1_42 (nb rfl) (nb rfl) (⟨by rw [own_det, if_neg (fun h => c10_7 h.2), if_neg (fun h => c20_8 h.1)], rfl⟩)
      · -- pc 20 not taken
        refine go_iloadN (pc' := 24) W d1_23 rfl rfl ?_
        refine go_bipush (pc' := 26) (z := 8) W d1_24 (by decide) rfl ?_
        refine go_ishl (pc' := 27) W d1_26 rfl ?_
        refine go_iloadN (pc' := 28) W d1_27 rfl rfl ?_
        refine go_ior (pc' := 29) W d1_28 rfl ?_
        refine go_bipush (pc' := 31) (z := 31) W d1_29 (by decide) rfl ?_
        refine go_irem (pc' := 32) W d1_31 (by decide) rfl ?_
        refine go_if_ne (pt := 39) (pf := 35) W d1_32 (by decide) rfl rfl (fun c32_10 => ?_) (fun c32_10 => ?_)
        · -- pc 32 taken
          refine go_getS (pc' := 42) W (host := "") (Or.inl (w5 hw)) Via.refl Sn d1_39 rfl ?_
          intro T11 W11
          exact go_retA W11 (t := (.object "com/example/bramble_tree/brambletree/io/Compression")) rfl rfl rfl rfl d1_42 (nb rfl) (nb rfl) (⟨by rw [own_det, if_neg (fun h => c10_7 h.2), if_neg (fun h => c32_10 h.2)], rfl⟩)
        · -- pc 32 not taken
          refine go_getS (pc' := 38) W (host := "") (Or.inl (w8 hw)) Via.refl Sz d1_35 rfl ?_
          intro T12 W12
          exact go_retA W12 (t := (.object "com/example/bramble_tree/brambletree/io/Compression")) rfl rfl rfl rfl d1_38 (nb rfl) (nb rfl) (⟨by rw [own_det, if_neg (fun h => c10_7 h.2), if_pos ⟨c20_8, c32_10⟩], rfl⟩)
    · -- pc 10 not taken
      refine go_getS (pc' := 16) W (host := "") (Or.inl (w11 hw)) Via.refl Sg d1_13 rfl ?_
      intro T13 W13
      exact go_retA W13 (t := (.object "com/example/bramble_tree/brambletree/io/Compression")) rfl rfl rfl rfl d1_16 (nb rfl) (nb rfl) (⟨by rw [own_det, if_pos ⟨c3_1, c10_7⟩], rfl⟩)
set_option maxRecDepth 65536 in
set_option maxHeartbeats 4000000 in
theorem rm0 (l : Launch) (Z : State) (a0 : Array Value) (hw : Hw a0 Z) (x0 : Int32) (x1 : Int32) (x2 : Int32) (g z n : Addr) (h0 : Heap) (n0 : Nat) (Z0 : n0 ≤ h0.size) (Sg : Sta Z h0 "com/example/bramble_tree/brambletree/io/Compression" "GZIP" "Lcom/example/bramble_tree/brambletree/io/Compression;" (.ref g)) (Sz : Sta Z h0 "com/example/bramble_tree/brambletree/io/Compression" "ZLIB" "Lcom/example/bramble_tree/brambletree/io/Compression;" (.ref z)) (Sn : Sta Z h0 "com/example/bramble_tree/brambletree/io/Compression" "NONE" "Lcom/example/bramble_tree/brambletree/io/Compression;" (.ref n)) :
    Ct l Z K0 #[(.int x0), (.int x1), (.int x2)] h0 n0 (fun v h => v = some (.int 1)) := by
  refine Ct.of (Ls := #[.val (.int x0), .val (.int x1), .val (.int x2), .unset, .unset, .unset, .unset, .unset, .unset]) (plainFor_of_name (by first | decide +kernel | (simp [plainName, overriddenIn]; done))) (fun m => by first | rfl | (simp [entryFrame, mkF, argsToLocals, Value.category]; done)) ?_
  intro E T W
  refine go_iloadN (pc' := 1) W d0_0 rfl rfl ?_
  refine go_ldcInt (pc' := 3) W (w0 hw) d0_1 rfl ?_
  refine go_iand (pc' := 4) W d0_3 rfl ?_
  refine go_sipush (pc' := 7) (z := 257) W d0_4 (by decide) rfl ?_
  refine go_irem (pc' := 8) W d0_7 (by decide) rfl ?_
  refine go_iconst (pc' := 9) (z := 1) W d0_8 rfl rfl ?_
  refine go_isub (pc' := 10) W d0_9 rfl ?_
  refine go_istoreN (pc' := 11) (l' := #[.val (.int x0), .val (.int x1), .val (.int x2), .val (.int (((x0 &&& (2147483647 : Int32)) % (257 : Int32)) - (1 : Int32))), .unset, .unset, .unset, .unset, .unset]) W d0_10 rfl rfl ?_
  refine go_iloadN (pc' := 12) W d0_11 rfl rfl ?_
  refine go_ldcInt (pc' := 14) W (w0 hw) d0_12 rfl ?_
  refine go_iand (pc' := 15) W d0_14 rfl ?_
  refine go_sipush (pc' := 18) (z := 257) W d0_15 (by decide) rfl ?_
  refine go_irem (pc' := 19) W d0_18 (by decide) rfl ?_
  refine go_iconst (pc' := 20) (z := 1) W d0_19 rfl rfl ?_
  refine go_isub (pc' := 21) W d0_20 rfl ?_
  refine go_istore (pc' := 23) (l' := #[.val (.int x0), .val (.int x1), .val (.int x2), .val (.int (((x0 &&& (2147483647 : Int32)) % (257 : Int32)) - (1 : Int32))), .val (.int (((x1 &&& (2147483647 : Int32)) % (257 : Int32)) - (1 : Int32))), .unset, .unset, .unset, .unset]) W d0_21 rfl rfl ?_
  refine go_iloadN (pc' := 24) W d0_23 rfl rfl ?_
  refine go_iconst (pc' := 25) (z := 3) W d0_24 rfl rfl ?_
  refine go_iand (pc' := 26) W d0_25 rfl ?_
  refine go_istore (pc' := 28) (l' := #[.val (.int x0), .val (.int x1), .val (.int x2), .val (.int (((x0 &&& (2147483647 : Int32)) % (257 : Int32)) - (1 : Int32))), .val (.int (((x1 &&& (2147483647 : Int32)) % (257 : Int32)) - (1 : Int32))), .val (.int (x2 &&& (3 : Int32))), .unset, .unset, .unset]) W d0_26 rfl rfl ?_
  have J48 : ∀ p : Int32, Go E (EndQ E.s n0 (fun v h => v = some (.int 1)) K0.rm.cells K0.rm.slots) (Fm E T 48 #[.val (.int x0), .val (.int x1), .val (.int x2), .val (.int p), .val (.int (((x1 &&& (2147483647 : Int32)) % (257 : Int32)) - (1 : Int32))), .val (.int (x2 &&& (3 : Int32))), .unset, .unset, .unset] []) := by
    intro p
    refine go_iloadN (pc' := 49) W d0_48 rfl rfl ?_
    refine go_iconst (pc' := 50) (z := 2) W d0_49 rfl rfl ?_
    refine go_iushr (pc' := 51) W d0_50 rfl ?_
    refine go_iconst (pc' := 52) (z := 3) W d0_51 rfl rfl ?_
    refine go_iand (pc' := 53) W d0_52 rfl ?_
    refine go_istore (pc' := 55) (l' := #[.val (.int x0), .val (.int x1), .val (.int x2), .val (.int p), .val (.int (((x1 &&& (2147483647 : Int32)) % (257 : Int32)) - (1 : Int32))), .val (.int (x2 &&& (3 : Int32))), .val (.int (((x2.toUInt32 >>> ((2 : Int32) &&& 31).toUInt32).toInt32) &&& (3 : Int32))), .unset, .unset]) W d0_53 rfl rfl ?_
    have J88 : ∀ (q : Int32) (_ : -1 ≤ q.toInt ∧ q.toInt ≤ 255), Go E (EndQ E.s n0 (fun v h => v = some (.int 1)) K0.rm.cells K0.rm.slots) (Fm E T 88 #[.val (.int x0), .val (.int x1), .val (.int x2), .val (.int p), .val (.int q), .val (.int (x2 &&& (3 : Int32))), .val (.int (((x2.toUInt32 >>> ((2 : Int32) &&& 31).toUInt32).toInt32) &&& (3 : Int32))), .unset, .unset] []) := by
      intro q hq
      refine go_iloadN (pc' := 89) W d0_88 rfl rfl ?_
      refine go_iload (pc' := 91) W d0_89 rfl rfl ?_
      refine go_callS (kc := K1) (argsL := [(.int p), (.int q)]) (rest := []) (pc' := 94) W (w1 hw) (w2 hw) (w3 hw) (w4 hw) (rm1 E.l Z a0 hw p q g z n h0 n0 Z0 Sg Sz Sn) (by decide) pd0 rfl rfl rfl (nb rfl) (nb rfl) (nb rfl) (nb rfl) d0_91 rfl ?_
      rintro _ T14 h14 ⟨rfl, q14⟩ W14
      replace W14 := W14.sub q14
      show Go E _ (Fm E T14 94 #[.val (.int x0), .val (.int x1), .val (.int x2), .val (.int p), .val (.int q), .val (.int (x2 &&& (3 : Int32))), .val (.int (((x2.toUInt32 >>> ((2 : Int32) &&& 31).toUInt32).toInt32) &&& (3 : Int32))), .unset, .unset] [(.ref (own_det p q g z n))])
      refine go_astore (pc' := 96) (l' := #[.val (.int x0), .val (.int x1), .val (.int x2), .val (.int p), .val (.int q), .val (.int (x2 &&& (3 : Int32))), .val (.int (((x2.toUInt32 >>> ((2 : Int32) &&& 31).toUInt32).toInt32) &&& (3 : Int32))), .val (.ref (own_det p q g z n)), .unset]) W14 d0_94 rfl rfl rfl ?_
      refine go_iloadN (pc' := 97) W14 d0_96 rfl rfl ?_
      refine go_bipush (pc' := 99) (z := 31) W14 d0_97 (by decide) rfl ?_
      refine go_icmp_ne (pt := 118) (pf := 102) W14 d0_99 (by decide) rfl rfl (fun c99_15 => ?_) (fun c99_15 => ?_)
      · -- pc 99 taken
        refine go_iloadN (pc' := 119) W14 d0_118 rfl rfl ?_
        refine go_bipush (pc' := 121) (z := 120) W14 d0_119 (by decide) rfl ?_
        refine go_icmp_ne (pt := 146) (pf := 124) W14 d0_121 (by decide) rfl rfl (fun c121_16 => ?_) (fun c121_16 => ?_)
        · -- pc 121 taken
          refine go_getS (pc' := 149) W14 (host := "") (Or.inl (w7 hw)) Via.refl Sn d0_146 rfl ?_
          intro T17 W17
          refine go_astore (pc' := 151) (l' := #[.val (.int x0), .val (.int x1), .val (.int x2), .val (.int p), .val (.int q), .val (.int (x2 &&& (3 : Int32))), .val (.int (((x2.toUInt32 >>> ((2 : Int32) &&& 31).toUInt32).toInt32) &&& (3 : Int32))), .val (.ref (own_det p q g z n)), .val (.ref n)]) W17 d0_149 rfl rfl rfl ?_
          refine go_aload (pc' := 153) W17 d0_151 rfl rfl rfl ?_
          refine go_aload (pc' := 155) W17 d0_153 rfl rfl rfl ?_
          refine go_acmp_ne (pt := 162) (pf := 158) W17 d0_155 rfl rfl (by decide) rfl rfl (fun c155_18 => ?_) (fun c155_18 => ?_)
          · exact absurd (congrArg Value.ref ((own_eq _ _ _ _ _ hq).trans (by rw [own_want, if_neg (fun h => c99_15 h.1), if_neg (fun h => c121_16 h.1)]))) c155_18
          · -- pc 155 not taken
            replace c155_18 : (own_det p q g z n) = n := Value.ref.inj c155_18
            refine go_iconst (pc' := 159) (z := 1) W17 d0_158 rfl rfl ?_
            refine go_goto (pc' := 163) W17 d0_159 (by decide) rfl ?_
            exact go_retI W17 (t := .boolean) rfl (by simp) rfl d0_163 (nb rfl) (nb rfl) (rfl)
        · -- pc 121 not taken
          refine go_iload (pc' := 126) W14 d0_124 rfl rfl ?_
          refine go_if_lt (pt := 146) (pf := 129) W14 d0_126 (by decide) rfl rfl (fun c126_19 => ?_) (fun c126_19 => ?_)
          · -- pc 126 taken
            refine go_getS (pc' := 149) W14 (host := "") (Or.inl (w7 hw)) Via.refl Sn d0_146 rfl ?_
            intro T20 W20
            refine go_astore (pc' := 151) (l' := #[.val (.int x0), .val (.int x1), .val (.int x2), .val (.int p), .val (.int q), .val (.int (x2 &&& (3 : Int32))), .val (.int (((x2.toUInt32 >>> ((2 : Int32) &&& 31).toUInt32).toInt32) &&& (3 : Int32))), .val (.ref (own_det p q g z n)), .val (.ref n)]) W20 d0_149 rfl rfl rfl ?_
            refine go_aload (pc' := 153) W20 d0_151 rfl rfl rfl ?_
            refine go_aload (pc' := 155) W20 d0_153 rfl rfl rfl ?_
            refine go_acmp_ne (pt := 162) (pf := 158) W20 d0_155 rfl rfl (by decide) rfl rfl (fun c155_21 => ?_) (fun c155_21 => ?_)
            · exact absurd (congrArg Value.ref ((own_eq _ _ _ _ _ hq).trans (by rw [own_want, if_neg (fun h => c99_15 h.1), if_neg (fun h => h.2.1 c126_19)]))) c155_21
            · -- pc 155 not taken
              replace c155_21 : (own_det p q g z n) = n := Value.ref.inj c155_21
              refine go_iconst (pc' := 159) (z := 1) W20 d0_158 rfl rfl ?_
              refine go_goto (pc' := 163) W20 d0_159 (by decide) rfl ?_
              exact go_retI W20 (t := .boolean) rfl (by simp) rfl d0_163 (nb rfl) (nb rfl) (rfl)
          · -- pc 126 not taken
            refine go_iload (pc' := 131) W14 d0_129 rfl rfl ?_
            refine go_bipush (pc' := 133) (z := 31) W14 d0_131 (by decide) rfl ?_
            refine go_irem (pc' := 134) W14 d0_133 (by decide) rfl ?_
            refine go_iconst (pc' := 135) (z := 1) W14 d0_134 rfl rfl ?_
            refine go_icmp_ne (pt := 146) (pf := 138) W14 d0_135 (by decide) rfl rfl (fun c135_22 => ?_) (fun c135_22 => ?_)
            · -- pc 135 taken
              refine go_getS (pc' := 149) W14 (host := "") (Or.inl (w7 hw)) Via.refl Sn d0_146 rfl ?_
              intro T23 W23
              refine go_astore (pc' := 151) (l' := #[.val (.int x0), .val (.int x1), .val (.int x2), .val (.int p), .val (.int q), .val (.int (x2 &&& (3 : Int32))), .val (.int (((x2.toUInt32 >>> ((2 : Int32) &&& 31).toUInt32).toInt32) &&& (3 : Int32))), .val (.ref (own_det p q g z n)), .val (.ref n)]) W23 d0_149 rfl rfl rfl ?_
              refine go_aload (pc' := 153) W23 d0_151 rfl rfl rfl ?_
              refine go_aload (pc' := 155) W23 d0_153 rfl rfl rfl ?_
              refine go_acmp_ne (pt := 162) (pf := 158) W23 d0_155 rfl rfl (by decide) rfl rfl (fun c155_24 => ?_) (fun c155_24 => ?_)
              · exact absurd (congrArg Value.ref ((own_eq _ _ _ _ _ hq).trans (by rw [own_want, if_neg (fun h => c99_15 h.1), if_neg (fun h => c135_22 h.2.2)]))) c155_24
              · -- pc 155 not taken
                replace c155_24 : (own_det p q g z n) = n := Value.ref.inj c155_24
                refine go_iconst (pc' := 159) (z := 1) W23 d0_158 rfl rfl ?_
                refine go_goto (pc' := 163) W23 d0_159 (by decide) rfl ?_
                exact go_retI W23 (t := .boolean) rfl (by simp) rfl d0_163 (nb rfl) (nb rfl) (rfl)
            · -- pc 135 not taken
              refine go_getS (pc' := 141) W14 (host := "") (Or.inl (w10 hw)) Via.refl Sz d0_138 rfl ?_
              intro T25 W25
              refine go_astore (pc' := 143) (l' := #[.val (.int x0), .val (.int x1), .val (.int x2), .val (.int p), .val (.int q), .val (.int (x2 &&& (3 : Int32))), .val (.int (((x2.toUInt32 >>> ((2 : Int32) &&& 31).toUInt32).toInt32) &&& (3 : Int32))), .val (.ref (own_det p q g z n)), .val (.ref z)]) W25 d0_141 rfl rfl rfl ?_
              refine go_goto (pc' := 151) W25 d0_143 (by decide) rfl ?_
              refine go_aload (pc' := 153) W25 d0_151 rfl rfl rfl ?_
              refine go_aload (pc' := 155) W25 d0_153 rfl rfl rfl ?_
              refine go_acmp_ne (pt := 162) (pf := 158) W25 d0_155 rfl rfl (by decide) rfl rfl (fun c155_26 => ?_) (fun c155_26 => ?_)
              · exact absurd (congrArg Value.ref ((own_eq _ _ _ _ _ hq).trans (by rw [own_want, if_neg (fun h => c99_15 h.1), if_pos ⟨c121_16, c126_19, c135_22⟩]))) c155_26
              · -- pc 155 not taken
                replace c155_26 : (own_det p q g z n) = z := Value.ref.inj c155_26
                refine go_iconst (pc' := 159) (z := 1) W25 d0_158 rfl rfl ?_
                refine go_goto (pc' := 163) W25 d0_159 (by decide) rfl ?_
                exact go_retI W25 (t := .boolean) rfl (by simp) rfl d0_163 (nb rfl) (nb rfl) (rfl)
      · -- pc 99 not taken
        refine go_iload (pc' := 104) W14 d0_102 rfl rfl ?_
        refine go_sipush (pc' := 107) (z := 139) W14 d0_104 (by decide) rfl ?_
        refine go_icmp_ne (pt := 118) (pf := 110) W14 d0_107 (by decide) rfl rfl (fun c107_27 => ?_) (fun c107_27 => ?_)
        · -- pc 107 taken
          refine go_iloadN (pc' := 119) W14 d0_118 rfl rfl ?_
          refine go_bipush (pc' := 121) (z := 120) W14 d0_119 (by decide) rfl ?_
          refine go_icmp_ne (pt := 146) (pf := 124) W14 d0_121 (by decide) rfl rfl (fun c121_28 => ?_) (fun c121_28 => ?_)
          · -- pc 121 taken
            refine go_getS (pc' := 149) W14 (host := "") (Or.inl (w7 hw)) Via.refl Sn d0_146 rfl ?_
            intro T29 W29
            refine go_astore (pc' := 151) (l' := #[.val (.int x0), .val (.int x1), .val (.int x2), .val (.int p), .val (.int q), .val (.int (x2 &&& (3 : Int32))), .val (.int (((x2.toUInt32 >>> ((2 : Int32) &&& 31).toUInt32).toInt32) &&& (3 : Int32))), .val (.ref (own_det p q g z n)), .val (.ref n)]) W29 d0_149 rfl rfl rfl ?_
            refine go_aload (pc' := 153) W29 d0_151 rfl rfl rfl ?_
            refine go_aload (pc' := 155) W29 d0_153 rfl rfl rfl ?_
            refine go_acmp_ne (pt := 162) (pf := 158) W29 d0_155 rfl rfl (by decide) rfl rfl (fun c155_30 => ?_) (fun c155_30 => ?_)
            · exact absurd (congrArg Value.ref ((own_eq _ _ _ _ _ hq).trans (by rw [own_want, if_neg (fun h => c107_27 h.2), if_neg (fun h => c121_28 h.1)]))) c155_30
            · -- pc 155 not taken
              replace c155_30 : (own_det p q g z n) = n := Value.ref.inj c155_30
              refine go_iconst (pc' := 159) (z := 1) W29 d0_158 rfl rfl ?_
              refine go_goto (pc' := 163) W29 d0_159 (by decide) rfl ?_
              exact go_retI W29 (t := .boolean) rfl (by simp) rfl d0_163 (nb rfl) (nb rfl) (rfl)
          · -- pc 121 not taken
            refine go_iload (pc' := 126) W14 d0_124 rfl rfl ?_
            refine go_if_lt (pt := 146) (pf := 129) W14 d0_126 (by decide) rfl rfl (fun c126_31 => ?_) (fun c126_31 => ?_)
            · -- pc 126 taken
              refine go_getS (pc' := 149) W14 (host := "") (Or.inl (w7 hw)) Via.refl Sn d0_146 rfl ?_
              intro T32 W32
              refine go_astore (pc' := 151) (l' := #[.val (.int x0), .val (.int x1), .val (.int x2), .val (.int p), .val (.int q), .val (.int (x2 &&& (3 : Int32))), .val (.int (((x2.toUInt32 >>> ((2 : Int32) &&& 31).toUInt32).toInt32) &&& (3 : Int32))), .val (.ref (own_det p q g z n)), .val (.ref n)]) W32 d0_149 rfl rfl rfl ?_
              refine go_aload (pc' := 153) W32 d0_151 rfl rfl rfl ?_
              refine go_aload (pc' := 155) W32 d0_153 rfl rfl rfl ?_
              refine go_acmp_ne (pt := 162) (pf := 158) W32 d0_155 rfl rfl (by decide) rfl rfl (fun c155_33 => ?_) (fun c155_33 => ?_)
              · exact absurd (congrArg Value.ref ((own_eq _ _ _ _ _ hq).trans (by rw [own_want, if_neg (fun h => c107_27 h.2), if_neg (fun h => h.2.1 c126_31)]))) c155_33
              · -- pc 155 not taken
                replace c155_33 : (own_det p q g z n) = n := Value.ref.inj c155_33
                refine go_iconst (pc' := 159) (z := 1) W32 d0_158 rfl rfl ?_
                refine go_goto (pc' := 163) W32 d0_159 (by decide) rfl ?_
                exact go_retI W32 (t := .boolean) rfl (by simp) rfl d0_163 (nb rfl) (nb rfl) (rfl)
            · -- pc 126 not taken
              refine go_iload (pc' := 131) W14 d0_129 rfl rfl ?_
              refine go_bipush (pc' := 133) (z := 31) W14 d0_131 (by decide) rfl ?_
              refine go_irem (pc' := 134) W14 d0_133 (by decide) rfl ?_
              refine go_iconst (pc' := 135) (z := 1) W14 d0_134 rfl rfl ?_
              refine go_icmp_ne (pt := 146) (pf := 138) W14 d0_135 (by decide) rfl rfl (fun c135_34 => ?_) (fun c135_34 => ?_)
              · -- pc 135 taken
                refine go_getS (pc' := 149) W14 (host := "") (Or.inl (w7 hw)) Via.refl Sn d0_146 rfl ?_
                intro T35 W35
                refine go_astore (pc' := 151) (l' := #[.val (.int x0), .val (.int x1), .val (.int x2), .val (.int p), .val (.int q), .val (.int (x2 &&& (3 : Int32))), .val (.int (((x2.toUInt32 >>> ((2 : Int32) &&& 31).toUInt32).toInt32) &&& (3 : Int32))), .val (.ref (own_det p q g z n)), .val (.ref n)]) W35 d0_149 rfl rfl rfl ?_
                refine go_aload (pc' := 153) W35 d0_151 rfl rfl rfl ?_
                refine go_aload (pc' := 155) W35 d0_153 rfl rfl rfl ?_
                refine go_acmp_ne (pt := 162) (pf := 158) W35 d0_155 rfl rfl (by decide) rfl rfl (fun c155_36 => ?_) (fun c155_36 => ?_)
                · exact absurd (congrArg Value.ref ((own_eq _ _ _ _ _ hq).trans (by rw [own_want, if_neg (fun h => c107_27 h.2), if_neg (fun h => c135_34 h.2.2)]))) c155_36
                · -- pc 155 not taken
                  replace c155_36 : (own_det p q g z n) = n := Value.ref.inj c155_36
                  refine go_iconst (pc' := 159) (z := 1) W35 d0_158 rfl rfl ?_
                  refine go_goto (pc' := 163) W35 d0_159 (by decide) rfl ?_
                  exact go_retI W35 (t := .boolean) rfl (by simp) rfl d0_163 (nb rfl) (nb rfl) (rfl)
              · -- pc 135 not taken
                refine go_getS (pc' := 141) W14 (host := "") (Or.inl (w10 hw)) Via.refl Sz d0_138 rfl ?_
                intro T37 W37
                refine go_astore (pc' := 143) (l' := #[.val (.int x0), .val (.int x1), .val (.int x2), .val (.int p), .val (.int q), .val (.int (x2 &&& (3 : Int32))), .val (.int (((x2.toUInt32 >>> ((2 : Int32) &&& 31).toUInt32).toInt32) &&& (3 : Int32))), .val (.ref (own_det p q g z n)), .val (.ref z)]) W37 d0_141 rfl rfl rfl ?_
                refine go_goto (pc' := 151) W37 d0_143 (by decide) rfl ?_
                refine go_aload (pc' := 153) W37 d0_151 rfl rfl rfl ?_
                refine go_aload (pc' := 155) W37 d0_153 rfl rfl rfl ?_
                refine go_acmp_ne (pt := 162) (pf := 158) W37 d0_155 rfl rfl (by decide) rfl rfl (fun c155_38 => ?_) (fun c155_38 => ?_)
                · exact absurd (congrArg Value.ref ((own_eq _ _ _ _ _ hq).trans (by rw [own_want, if_neg (fun h => c107_27 h.2), if_pos ⟨c121_28, c126_31, c135_34⟩]))) c155_38
                · -- pc 155 not taken
                  replace c155_38 : (own_det p q g z n) = z := Value.ref.inj c155_38
                  refine go_iconst (pc' := 159) (z := 1) W37 d0_158 rfl rfl ?_
                  refine go_goto (pc' := 163) W37 d0_159 (by decide) rfl ?_
                  exact go_retI W37 (t := .boolean) rfl (by simp) rfl d0_163 (nb rfl) (nb rfl) (rfl)
        · -- pc 107 not taken
          refine go_getS (pc' := 113) W14 (host := "") (Or.inl (w13 hw)) Via.refl Sg d0_110 rfl ?_
          intro T39 W39
          refine go_astore (pc' := 115) (l' := #[.val (.int x0), .val (.int x1), .val (.int x2), .val (.int p), .val (.int q), .val (.int (x2 &&& (3 : Int32))), .val (.int (((x2.toUInt32 >>> ((2 : Int32) &&& 31).toUInt32).toInt32) &&& (3 : Int32))), .val (.ref (own_det p q g z n)), .val (.ref g)]) W39 d0_113 rfl rfl rfl ?_
          refine go_goto (pc' := 151) W39 d0_115 (by decide) rfl ?_
          refine go_aload (pc' := 153) W39 d0_151 rfl rfl rfl ?_
          refine go_aload (pc' := 155) W39 d0_153 rfl rfl rfl ?_
          refine go_acmp_ne (pt := 162) (pf := 158) W39 d0_155 rfl rfl (by decide) rfl rfl (fun c155_40 => ?_) (fun c155_40 => ?_)
          · exact absurd (congrArg Value.ref ((own_eq _ _ _ _ _ hq).trans (by rw [own_want, if_pos ⟨c99_15, c107_27⟩]))) c155_40
          · -- pc 155 not taken
            replace c155_40 : (own_det p q g z n) = g := Value.ref.inj c155_40
            refine go_iconst (pc' := 159) (z := 1) W39 d0_158 rfl rfl ?_
            refine go_goto (pc' := 163) W39 d0_159 (by decide) rfl ?_
            exact go_retI W39 (t := .boolean) rfl (by simp) rfl d0_163 (nb rfl) (nb rfl) (rfl)
    refine go_iload (pc' := 57) W d0_55 rfl rfl ?_
    refine go_if_ne (pt := 68) (pf := 60) W d0_57 (by decide) rfl rfl (fun c57_41 => ?_) (fun c57_41 => ?_)
    · -- pc 57 taken
      refine go_iload (pc' := 70) W d0_68 rfl rfl ?_
      refine go_iconst (pc' := 71) (z := 1) W d0_70 rfl rfl ?_
      refine go_icmp_ne (pt := 88) (pf := 74) W d0_71 (by decide) rfl rfl (fun c71_42 => ?_) (fun c71_42 => ?_)
      · -- pc 71 taken
        exact J88 (((x1 &&& (2147483647 : Int32)) % (257 : Int32)) - (1 : Int32)) (own_b257 _)
      · -- pc 71 not taken
        refine go_iloadN (pc' := 75) W d0_74 rfl rfl ?_
        refine go_ldcInt (pc' := 77) W (w0 hw) d0_75 rfl ?_
        refine go_iand (pc' := 78) W d0_77 rfl ?_
        refine go_bipush (pc' := 80) (z := 9) W d0_78 (by decide) rfl ?_
        refine go_irem (pc' := 81) W d0_80 (by decide) rfl ?_
        refine go_bipush (pc' := 83) (z := 31) W d0_81 (by decide) rfl ?_
        refine go_imul (pc' := 84) W d0_83 rfl ?_
        refine go_iconst (pc' := 85) (z := 1) W d0_84 rfl rfl ?_
        refine go_iadd (pc' := 86) W d0_85 rfl ?_
        refine go_istore (pc' := 88) (l' := #[.val (.int x0), .val (.int x1), .val (.int x2), .val (.int p), .val (.int ((((x1 &&& (2147483647 : Int32)) % (9 : Int32)) * (31 : Int32)) + (1 : Int32))), .val (.int (x2 &&& (3 : Int32))), .val (.int (((x2.toUInt32 >>> ((2 : Int32) &&& 31).toUInt32).toInt32) &&& (3 : Int32))), .unset, .unset]) W d0_86 rfl rfl ?_
        exact J88 ((((x1 &&& (2147483647 : Int32)) % (9 : Int32)) * (31 : Int32)) + (1 : Int32)) (own_b9 _)
    · -- pc 57 not taken
      refine go_sipush (pc' := 63) (z := 139) W d0_60 (by decide) rfl ?_
      refine go_istore (pc' := 65) (l' := #[.val (.int x0), .val (.int x1), .val (.int x2), .val (.int p), .val (.int (139 : Int32)), .val (.int (x2 &&& (3 : Int32))), .val (.int (((x2.toUInt32 >>> ((2 : Int32) &&& 31).toUInt32).toInt32) &&& (3 : Int32))), .unset, .unset]) W d0_63 rfl rfl ?_
      refine go_goto (pc' := 88) W d0_65 (by decide) rfl ?_
      exact J88 (139 : Int32) ⟨by decide, by decide⟩
  refine go_iload (pc' := 30) W d0_28 rfl rfl ?_
  refine go_if_ne (pt := 39) (pf := 33) W d0_30 (by decide) rfl rfl (fun c30_43 => ?_) (fun c30_43 => ?_)
  · -- pc 30 taken
    refine go_iload (pc' := 41) W d0_39 rfl rfl ?_
    refine go_iconst (pc' := 42) (z := 1) W d0_41 rfl rfl ?_
    refine go_icmp_ne (pt := 48) (pf := 45) W d0_42 (by decide) rfl rfl (fun c42_44 => ?_) (fun c42_44 => ?_)
    · -- pc 42 taken
      exact J48 (((x0 &&& (2147483647 : Int32)) % (257 : Int32)) - (1 : Int32))
    · -- pc 42 not taken
      refine go_bipush (pc' := 47) (z := 120) W d0_45 (by decide) rfl ?_
      refine go_istoreN (pc' := 48) (l' := #[.val (.int x0), .val (.int x1), .val (.int x2), .val (.int (120 : Int32)), .val (.int (((x1 &&& (2147483647 : Int32)) % (257 : Int32)) - (1 : Int32))), .val (.int (x2 &&& (3 : Int32))), .unset, .unset, .unset]) W d0_47 rfl rfl ?_
      exact J48 (120 : Int32)
  · -- pc 30 not taken
    refine go_bipush (pc' := 35) (z := 31) W d0_33 (by decide) rfl ?_
    refine go_istoreN (pc' := 36) (l' := #[.val (.int x0), .val (.int x1), .val (.int x2), .val (.int (31 : Int32)), .val (.int (((x1 &&& (2147483647 : Int32)) % (257 : Int32)) - (1 : Int32))), .val (.int (x2 &&& (3 : Int32))), .unset, .unset, .unset]) W d0_35 rfl rfl ?_
    refine go_goto (pc' := 48) W d0_36 (by decide) rfl ?_
    exact J48 (31 : Int32)
set_option maxRecDepth 65536 in
theorem comes_1 {Post : Tables → Env → Array Value → State → Outcome → State → Prop} (hpost : ∀ tb e args s v u, (limb_1_1.after args s (.returned v) u = true ∧ limb_1_2.after args s (.returned v) u = true) → FrameEnd s (.returned v) u (Jvm.fieldLocs frame_1_writes args s ++ Jvm.arrayLocs frame_1_arrays args s ++ Jvm.staticLocs frame_1_statics s) 0 0 → Post tb e args s (.returned v) u) :
    ArmFor flags0 classFile x code maxLocals ret World_1 tables_1 room_1 Calls_1 rest_1 Pre_1 Post := by
  intro l hfl _ _ p e ha hc hk s m args below hf hA hF happ hP
  obtain ⟨hcalls, hrest, hpre⟩ := hP
  obtain ⟨-, -, -, hnamed, -, -, -, hat⟩ := (Spec.applies_iff hf).mp happ
  obtain ⟨hg, hn⟩ := and_e (Cond.before_iff.mp (show (Jvm.Cond.and given_1 narrow_1).before args s = true from hpre))
  obtain ⟨hct, g0⟩ := and_e hg
  obtain ⟨a0, g1⟩ := and_e g0
  obtain ⟨a1, g2⟩ := and_e g1
  obtain ⟨v0, v1, v2, rfl⟩ : ∃ v0 v1 v2 : Value, args = #[v0, v1, v2] := by
    have hs : args.size = 3 := by simpa [Cond.value, given_1] using hct
    obtain ⟨L⟩ := args
    match L, hs with
    | [v0, v1, v2], _ => exact ⟨v0, v1, v2, rfl⟩
  have hw := fun d (hd : d ∈ tables_1) => atoms_spec (ws := Jvm.Cond.code x code maxLocals ret :: tables_1) hat d (List.mem_cons_of_mem _ hd)
  have hfit : Fit s := fun {y c} hc i hi => by
    obtain ⟨ha, rfl⟩ := Array.getElem?_eq_some_iff.mp hc
    have q := List.all_eq_true.mp ((Array.all_eq_true_iff_forall_mem.mp hF) _ (Array.getElem_mem ha)) i (List.mem_range.mpr hi)
    simpa [Array.getElem?_eq_getElem hi] using q
  obtain ⟨i0, ei0⟩ := is_v a0
  obtain rfl : v0 = (.int i0) := Option.some.inj ei0
  obtain ⟨i1, ei1⟩ := is_v a1
  obtain rfl : v1 = (.int i1) := Option.some.inj ei1
  obtain ⟨i2, ei2⟩ := is_v g2
  obtain rfl : v2 = (.int i2) := Option.some.inj ei2
  obtain ⟨n1, n23⟩ := and_e hn
  obtain ⟨n2, n3⟩ := and_e n23
  obtain ⟨xN, eN⟩ := exa_v n1
  obtain ⟨xZ, eZ⟩ := exa_v n2
  obtain ⟨xG, eG⟩ := exa_v n3
  have SN := Sta.start eN (Or.inr ⟨(w3 hw), (w6 hw)⟩)
  have SZ := Sta.start eZ (Or.inr ⟨(w3 hw), (w9 hw)⟩)
  have SG := Sta.start eG (Or.inr ⟨(w3 hw), (w12 hw)⟩)
  obtain ⟨n, o, h1, h2, h3, _, L, rfl, ⟨rfl, N⟩, hq⟩ := rm0 l s _ hw i0 i1 i2 xG xZ xN s.heap s.heap.size (Nat.le_refl _) SG SZ SN tables_1 p e ha hc hk s m _ below hf ((Spec.applies_iff_loose hf).mp happ).1 ⟨rfl, State.Warmed39.refl s, rfl⟩ trivial
  exact ⟨n, _, h1, h2, h3, hpost _ _ _ _ _ _ ⟨Cond.after_iff.mpr rfl, Cond.after_iff.mpr (eq_i res_at (Term.int_eval (1)) rfl)⟩ ⟨hq.1, hq.2.1, (hq.2.2.sift fun y hy => Or.inr (N y hy)).mono (by decide) (by decide)⟩⟩
theorem main_1_1 : Claimed_1_1 := comes_1 fun _ _ _ _ _ _ h hF => ⟨h.1, hF⟩
theorem main_1_2 : Claimed_1_2 := comes_1 fun _ _ _ _ _ _ h hF => ⟨h.2, hF⟩
end Jvm.Pilot.@@N@@
namespace Jvm.Pilot.@@N@@
open Jvm Jvm.ClassFile Sem Op Lib Jvm.Free Jvm.Stand Jvm.Pilot.@@N@@.Jvm.D
/-! MADE BY PROGRAM (witnessworld.py) out of the Statement's table words and the real class files: 12 classes; the members and pool entries that the words name. The judged class is class 1, her method 1. -/
namespace start1
open Jvm.ClassFile
def u (s : String) : CpInfo := .utf8 (stringToUtf16 s)
/-- a pool by its gaps: so many unusable entries, then the entry; so many at the end -/
def gap : Nat → List CpInfo → List CpInfo
  | 0, r => r
  | n + 1, r => .unusable :: gap n r
def poolList (es : List (Nat × CpInfo)) (last : Nat) : List CpInfo := es.foldr (fun e r => gap e.1 (e.2 :: r)) (gap last [])
def pool (es : List (Nat × CpInfo)) (last : Nat) : Array CpInfo := ⟨poolList es last⟩
def fileOf (pool : Array CpInfo) (this : Nat) (attrs : Array Attribute := #[]) (ms : Array MethodInfo := #[]) (fl : Nat := 33) (sup : Nat := 0) (ifs : Array Nat := #[]) (fds : Array FieldInfo := #[]) : ClassFile where
  minorVersion := 0
  majorVersion := 65
  constantPool := pool
  accessFlags := fl
  thisClass := this
  superClass := sup
  interfaces := ifs
  fields := fds
  methods := ms
  attributes := attrs
def plain (name : String) (sup : Option ClassId) : Class where
  name := name
  kind := .ordinary
  loader := none
  accessFlags := 33
  super := sup
  interfaces := #[]
  cf := none
  fields := #[]
  methods := #[]
  instanceTypes := #[]
  staticTypes := #[]
  resolved := #[]
  callSites := []
  init := .initialized
  statics := none
  mirror := none

def pool0 : Array CpInfo := pool [(5, u "<init>"), (0, u "()V"), (1, .class_ 10), (1, u "java/lang/Object")] 113

def k0m0 : Method := { name := "<init>", desc := "()V", sig := { parameters := [], returnType := none }, accessFlags := 1, code := none }
/-- java/lang/Object -/
def k0 : Class := { plain "java/lang/Object" none with
  accessFlags := 33
  interfaces := #[]
  cf := some (fileOf pool0 8 #[] #[{ accessFlags := 1, nameIndex := 5, descriptorIndex := 6, attributes := #[] }] 33 0 #[] #[])
  fields := #[]
  methods := #[k0m0]
  instanceTypes := #[]
  staticTypes := #[]
  resolved := Array.replicate 124 none
  statics := none }

def pool1 : Array CpInfo := pool [(2, .class_ 4), (1, u "java/lang/Object"), (0, u "<init>"), (0, u "()V"), (0, .integer 2147483647), (0, .methodref 9 10), (0, .class_ 11), (0, .nameAndType 12 13), (0, u "com/example/bramble_tree/brambletree/io/Compression"), (0, u "detect"), (0, u "(II)Lcom/example/bramble_tree/brambletree/io/Compression;"), (0, .fieldref 9 15), (0, .nameAndType 16 17), (0, u "GZIP"), (0, u "Lcom/example/bramble_tree/brambletree/io/Compression;"), (0, .fieldref 9 19), (0, .nameAndType 20 17), (0, u "ZLIB"), (0, .fieldref 9 22), (0, .nameAndType 23 17), (0, u "NONE"), (0, .class_ 25), (0, u "com/example/bramble_tree/brambletree/io/CompressionDetectPinLaw"), (2, u "law"), (0, u "(III)Z")] 3

def k1m0 : Method := { name := "<init>", desc := "()V", sig := { parameters := [], returnType := none }, accessFlags := 2, code := none }
def k1c1 : Code := { maxStack := 2, maxLocals := 9, code := code, exceptionTable := #[], attributes := #[] }
def k1m1 : Method := { name := "law", desc := "(III)Z", sig := { parameters := [.int, .int, .int], returnType := some .boolean }, accessFlags := 9, code := some k1c1 }
/-- com/example/bramble_tree/brambletree/io/CompressionDetectPinLaw -/
def k1 : Class := { plain "com/example/bramble_tree/brambletree/io/CompressionDetectPinLaw" (some 0) with
  accessFlags := 49
  interfaces := #[]
  cf := some (fileOf pool1 24 #[] #[{ accessFlags := 2, nameIndex := 5, descriptorIndex := 6, attributes := #[] }, { accessFlags := 9, nameIndex := 28, descriptorIndex := 29, attributes := #[] }] 49 2 #[] #[])
  fields := #[]
  methods := #[k1m0, k1m1]
  instanceTypes := #[]
  staticTypes := #[]
  resolved := Array.replicate 33 none
  statics := none }

def pool2 : Array CpInfo := pool [(1, .class_ 2), (0, u "java/lang/constant/Constable"), (0, .class_ 4), (0, u "java/lang/Object")] 6

/-- java/lang/constant/Constable -/
def k2 : Class := { plain "java/lang/constant/Constable" (some 0) with
  accessFlags := 1537
  interfaces := #[]
  cf := some (fileOf pool2 1 #[] #[] 1537 3 #[] #[])
  fields := #[]
  methods := #[]
  instanceTypes := #[]
  staticTypes := #[]
  resolved := Array.replicate 11 none
  statics := none }

def pool3 : Array CpInfo := pool [(1, .class_ 2), (0, u "java/lang/Comparable"), (0, .class_ 4), (0, u "java/lang/Object")] 7

/-- java/lang/Comparable -/
def k3 : Class := { plain "java/lang/Comparable" (some 0) with
  accessFlags := 1537
  interfaces := #[]
  cf := some (fileOf pool3 1 #[] #[] 1537 3 #[] #[])
  fields := #[]
  methods := #[]
  instanceTypes := #[]
  staticTypes := #[]
  resolved := Array.replicate 12 none
  statics := none }

def pool4 : Array CpInfo := pool [(1, .class_ 2), (0, u "java/io/Serializable"), (0, .class_ 4), (0, u "java/lang/Object")] 2

/-- java/io/Serializable -/
def k4 : Class := { plain "java/io/Serializable" (some 0) with
  accessFlags := 1537
  interfaces := #[]
  cf := some (fileOf pool4 1 #[] #[] 1537 3 #[] #[])
  fields := #[]
  methods := #[]
  instanceTypes := #[]
  staticTypes := #[]
  resolved := Array.replicate 7 none
  statics := none }

def pool5 : Array CpInfo := pool [(2, .class_ 4), (1, u "java/lang/Enum"), (0, u "name"), (0, u "Ljava/lang/String;"), (2, u "ordinal"), (0, u "I"), (1, .class_ 14), (1, u "java/lang/Object"), (4, u "hash"), (86, .class_ 108), (1, u "java/lang/Enum$EnumDesc"), (2, .class_ 112), (0, u "java/lang/constant/Constable"), (0, .class_ 114), (0, u "java/lang/Comparable"), (0, .class_ 116), (0, u "java/io/Serializable")] 87

/-- java/lang/Enum -/
def k5 : Class := { plain "java/lang/Enum" (some 0) with
  accessFlags := 1057
  interfaces := #[2, 3, 4]
  cf := some (fileOf pool5 2 #[.nestMembers #[106]] #[] 1057 12 #[111, 113, 115] #[{ accessFlags := 18, nameIndex := 5, descriptorIndex := 6, attributes := #[] }, { accessFlags := 18, nameIndex := 9, descriptorIndex := 10, attributes := #[] }, { accessFlags := 2, nameIndex := 19, descriptorIndex := 10, attributes := #[] }])
  fields := #[{ name := "name", type := (.object "java/lang/String"), accessFlags := 18, slot := 0, constantValue := 0 }, { name := "ordinal", type := .int, accessFlags := 18, slot := 1, constantValue := 0 }, { name := "hash", type := .int, accessFlags := 2, slot := 2, constantValue := 0 }]
  methods := #[]
  instanceTypes := #[(.object "java/lang/String"), .int, .int]
  staticTypes := #[]
  resolved := Array.replicate 204 none
  statics := none }

def pool6 : Array CpInfo := pool [(1, .class_ 2), (0, u "com/example/bramble_tree/brambletree/io/Compression"), (0, .fieldref 1 4), (0, .nameAndType 5 6), (0, u "NONE"), (0, u "Lcom/example/bramble_tree/brambletree/io/Compression;"), (0, .fieldref 1 8), (0, .nameAndType 9 6), (0, u "GZIP"), (0, .fieldref 1 11), (0, .nameAndType 12 6), (0, u "ZLIB"), (2, u "$VALUES"), (0, u "[Lcom/example/bramble_tree/brambletree/io/Compression;"), (6, .class_ 25), (1, u "java/lang/Enum"), (47, u "detect"), (0, u "(II)Lcom/example/bramble_tree/brambletree/io/Compression;")] 15

def k6c0 : Code := { maxStack := 2, maxLocals := 2, code := prog_2_method_4_code, exceptionTable := #[], attributes := #[] }
def k6m0 : Method := { name := "detect", desc := "(II)Lcom/example/bramble_tree/brambletree/io/Compression;", sig := { parameters := [.int, .int], returnType := some (.object "com/example/bramble_tree/brambletree/io/Compression") }, accessFlags := 9, code := some k6c0 }
/-- com/example/bramble_tree/brambletree/io/Compression -/
def k6 : Class := { plain "com/example/bramble_tree/brambletree/io/Compression" (some 5) with
  accessFlags := 16433
  interfaces := #[]
  cf := some (fileOf pool6 1 #[] #[{ accessFlags := 9, nameIndex := 73, descriptorIndex := 74, attributes := #[] }] 16433 23 #[] #[{ accessFlags := 16409, nameIndex := 5, descriptorIndex := 6, attributes := #[] }, { accessFlags := 16409, nameIndex := 9, descriptorIndex := 6, attributes := #[] }, { accessFlags := 16409, nameIndex := 12, descriptorIndex := 6, attributes := #[] }, { accessFlags := 4122, nameIndex := 15, descriptorIndex := 16, attributes := #[] }])
  fields := #[{ name := "NONE", type := (.object "com/example/bramble_tree/brambletree/io/Compression"), accessFlags := 16409, slot := 0, constantValue := 0 }, { name := "GZIP", type := (.object "com/example/bramble_tree/brambletree/io/Compression"), accessFlags := 16409, slot := 1, constantValue := 0 }, { name := "ZLIB", type := (.object "com/example/bramble_tree/brambletree/io/Compression"), accessFlags := 16409, slot := 2, constantValue := 0 }, { name := "$VALUES", type := (.array (.object "com/example/bramble_tree/brambletree/io/Compression")), accessFlags := 4122, slot := 3, constantValue := 0 }]
  methods := #[k6m0]
  instanceTypes := #[(.object "java/lang/String"), .int, .int]
  staticTypes := #[(.object "com/example/bramble_tree/brambletree/io/Compression"), (.object "com/example/bramble_tree/brambletree/io/Compression"), (.object "com/example/bramble_tree/brambletree/io/Compression"), (.array (.object "com/example/bramble_tree/brambletree/io/Compression"))]
  resolved := Array.replicate 90 none
  statics := some 0 }

def pool7 : Array CpInfo := pool [(1, u "java/lang/Cloneable"), (0, .class_ 1), (0, u "java/lang/Object"), (0, .class_ 3)] 3

/-- java/lang/Cloneable -/
def k7 : Class := { plain "java/lang/Cloneable" (some 0) with
  accessFlags := 1537
  interfaces := #[]
  cf := some (fileOf pool7 2 #[] #[] 1537 4 #[] #[])
  fields := #[]
  methods := #[]
  instanceTypes := #[]
  staticTypes := #[]
  resolved := Array.replicate 8 none
  statics := none }

/-- the primitive byte -/
def k8 : Class := { plain "byte" none with kind := .primitive 'B', accessFlags := 0x411 }
/-- [B -/
def k9 : Class := { plain "[B" (some 0) with kind := .array 8 .byte, interfaces := #[7, 4], accessFlags := 1041 }

/-- the primitive int -/
def k10 : Class := { plain "int" none with kind := .primitive 'I', accessFlags := 0x411 }
/-- [I -/
def k11 : Class := { plain "[I" (some 0) with kind := .array 10 .int, interfaces := #[7, 4], accessFlags := 1041 }

def heap : Heap := #[{ cls := 6, slots := #[.ref 1, .ref 3, .ref 2, .null], vm := .statics 6 },
  { cls := 6, slots := #[.null, .int 0, .int 0], vm := .none },
  { cls := 6, slots := #[.null, .int 1, .int 0], vm := .none },
  { cls := 6, slots := #[.null, .int 2, .int 0], vm := .none }]
def classes : Array Class := #[k0, k1, k2, k3, k4, k5, k6, k7, k8, k9, k10, k11]
def interned : List (Array UInt16 × Addr) := []
def slotsUsed : Nat := 13
def theMethod : MethodId := ⟨1, 1⟩
def args0 : Array Value := #[.int 5, .int 3, .int 2]
def aboutOver (below : List Frame) : State where
  vm := { classes := classes, interned := interned.toArray }
  heap := heap
  slotsUsed := slotsUsed
  threads := #[{ frames := .invoking theMethod args0 :: below }]
def below0 : List Frame := [.native { method := ⟨0, 0⟩, args := #[] }]
def about1 : State := aboutOver below0
def p0 : Program := .bare "" "" ""
def e0 : Env := launch0.env 0 0 0
theorem w_frames : about1.frames = Frame.invoking theMethod args0 :: below0 := rfl
set_option maxRecDepth 65536 in
theorem w_args : argsFit about1.vm theMethod args0 = true := by decide +kernel
set_option maxRecDepth 65536 in
theorem w_heap : heapFits about1 = true := by decide +kernel
set_option maxRecDepth 65536 in
theorem w_runnable : about1.curStatus? = some .runnable := by decide +kernel
set_option maxRecDepth 65536 in
theorem w_alone : about1.alone = true := by decide +kernel
set_option maxRecDepth 65536 in
theorem w_named : about1.methodNamed? x = some theMethod := by decide +kernel
set_option maxRecDepth 65536 in
theorem w_hears : about1.hears theMethod below0 = true := by decide +kernel
set_option maxRecDepth 65536 in
theorem w_ripe : about1.ripe theMethod args0 below0 = true := by decide +kernel
theorem w_running : about1.status = .running := rfl
set_option maxRecDepth 65536 in
theorem w_room : about1.hasRoom e0.platform room_1 = true :=
  launch0.hasRoom_least _ room_1 (by decide +kernel) (by decide +kernel) (by decide +kernel) (by decide +kernel) (by decide +kernel) (by decide +kernel)
theorem allAtoms_all (ts : List Jvm.Cond) (a : Array Jvm.Value) (st : Jvm.State) : (allAtoms ts).before a st = ts.all (fun c => c.before a st) := by
  induction ts with
  | nil => rfl
  | cons c t ih =>
    show (Jvm.Cond.and c (allAtoms t)).before a st = _
    rw [Jvm.Cond.before_and, ih, List.all_cons]
def words1 : List Jvm.Cond := Jvm.Cond.code x code maxLocals ret :: tables_1
/-- a 'code' word, met by the world's own term for the bytes: nothing is compared byte by byte -/
theorem code_word {y : MethodName} {bytes : ByteArray} {mx : Nat} {rt : Option FieldType} {a : Array Value} {s : State} {m : MethodId} {meth : Method} {c : Code} (h1 : s.methodNamed? y = some m) (h2 : s.vm.method? m = some meth) (h3 : meth.code = some c) (h4 : c.code = bytes)
    (h5 : (c.maxLocals == mx && c.exceptionTable.isEmpty && decide (c.maxStack ≤ mostOperands) && decide (meth.sig.returnType = rt) && !meth.locks && decide (parseMethodDescriptor y.desc = some meth.sig)) = true) : (Jvm.Cond.code y bytes mx rt).before a s = true := by
  simp only [Bool.and_eq_true, beq_iff_eq, Bool.not_eq_true', decide_eq_true_eq] at h5
  obtain ⟨⟨⟨⟨⟨g1, g2⟩, g3⟩, g4⟩, g5⟩, g6⟩ := h5
  simp [Cond.before, Cond.holds, Cond.value, h1, h2, h3, h4, g1, g2, g3, g4, g5, g6]
def isCode : Jvm.Cond → Bool
  | .code _ _ _ _ => true
  | _ => false
theorem all_split {L : List Jvm.Cond} {P : Jvm.Cond → Bool} (h1 : L.all (fun c => isCode c || P c) = true) (h2 : ∀ c ∈ L.filter isCode, P c = true) : L.all P = true := by
  refine List.all_eq_true.mpr fun c hc => ?_
  have h := List.all_eq_true.mp h1 c hc
  rcases Bool.eq_false_or_eq_true (isCode c) with hi | hi
  · exact h2 c (List.mem_filter.mpr ⟨hc, hi⟩)
  · simpa [hi] using h
set_option maxRecDepth 65536 in
theorem w_c0 : (Jvm.Cond.code x code maxLocals ret).before args0 about1 = true := code_word (m := ⟨1, 1⟩) (meth := k1m1) (c := k1c1) (by decide +kernel) rfl rfl rfl (by decide +kernel)
set_option maxRecDepth 65536 in
theorem w_c1 : (Jvm.Cond.code ({ cls := "com/example/bramble_tree/brambletree/io/Compression", name := "detect", desc := "(II)Lcom/example/bramble_tree/brambletree/io/Compression;" } : Jvm.MethodName) prog_2_method_4_code (2 : Nat) (Option.some (Jvm.ClassFile.FieldType.object "com/example/bramble_tree/brambletree/io/Compression"))).before args0 about1 = true := code_word (m := ⟨6, 0⟩) (meth := k6m0) (c := k6c0) (by decide +kernel) rfl rfl rfl (by decide +kernel)
def codes1 : List Jvm.Cond := [Jvm.Cond.code x code maxLocals ret, Jvm.Cond.code ({ cls := "com/example/bramble_tree/brambletree/io/Compression", name := "detect", desc := "(II)Lcom/example/bramble_tree/brambletree/io/Compression;" } : Jvm.MethodName) prog_2_method_4_code (2 : Nat) (Option.some (Jvm.ClassFile.FieldType.object "com/example/bramble_tree/brambletree/io/Compression"))]
set_option maxRecDepth 65536 in
theorem codes_eq : words1.filter isCode = codes1 := rfl
theorem w_codes : ∀ c ∈ words1.filter isCode, c.before args0 about1 = true := by
  rw [codes_eq]
  intro c hc
  simp only [codes1, List.mem_cons, List.not_mem_nil, or_false] at hc
  rcases hc with rfl | rfl
  · exact w_c0
  · exact w_c1
set_option maxRecDepth 65536 in
theorem w_t1 : words1.all (fun c => isCode c || c.before args0 about1) = true := by decide +kernel
theorem w_tables : (allAtoms (Jvm.Cond.code x code maxLocals ret :: tables_1)).before args0 about1 = true := by
  rw [allAtoms_all]
  show words1.all (fun c => c.before args0 about1) = true
  refine all_split ?_ w_codes
  rw [w_t1]
set_option maxRecDepth 65536 in
theorem w_case : (Jvm.Cond.and given_1 narrow_1).before args0 about1 = true := by decide +kernel
theorem w_applies : (headSpec (Jvm.Cond.code x code maxLocals ret :: tables_1) room_1).applies x e0.platform about1 = true :=
  (Spec.applies_iff w_frames).mpr ⟨w_running, w_runnable, w_alone, w_named, w_hears, w_ripe, w_room, w_tables⟩
theorem atStart : AtStart classFile x code maxLocals ret World_1 tables_1 room_1 Calls_1 rest_1 Pre_1 launch0 p0 e0 about1 theMethod args0 below0 :=
  ⟨lists_1, trivial, launch0.admits_env _ _ _, launch0.least_env, fairChoices_fair.cas, fairChoices_fair.clock, w_frames, w_args, w_heap, w_applies, trivial, trivial, w_case⟩
end start1
theorem witness_1 : WitnessClaimed_1 := ⟨start1.p0, start1.e0, start1.about1, start1.theMethod, start1.args0, start1.below0, start1.atStart⟩
end Jvm.Pilot.@@N@@
