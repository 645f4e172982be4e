import JvmDerived
import JvmDerived.Pilot.@@N@@Statement
import JvmDerived.Pilot.@@N@@Code
set_option linter.unusedVariables false
set_option linter.unusedSimpArgs false
namespace Jvm.GoKit
open Sem ClassFile Op Lib Jvm.Stand Jvm.Free Jvm.LawKit Jvm.RoadKit
/-- what is fixed of one walk, but for the method's own figures -/
abbrev Cx : Type := Program × Launch × Env × State × MethodId × Array Value × List Frame × Method × Code
abbrev Cx.p (E : Cx) : Program := E.1
abbrev Cx.l (E : Cx) : Launch := E.2.1
abbrev Cx.e (E : Cx) : Env := E.2.2.1
abbrev Cx.s (E : Cx) : State := E.2.2.2.1
abbrev Cx.m (E : Cx) : MethodId := E.2.2.2.2.1
abbrev Cx.args (E : Cx) : Array Value := E.2.2.2.2.2.1
abbrev Cx.below (E : Cx) : List Frame := E.2.2.2.2.2.2.1
abbrev Cx.meth (E : Cx) : Method := E.2.2.2.2.2.2.2.1
abbrev Cx.c (E : Cx) : Code := E.2.2.2.2.2.2.2.2
/-- a method's own figures: its name, bytes, locals, return type, room -/
abbrev Mt : Type := MethodName × ByteArray × Nat × Option FieldType × Room
abbrev Mt.y (k : Mt) : MethodName := k.1
abbrev Mt.bytes (k : Mt) : ByteArray := k.2.1
abbrev Mt.maxL (k : Mt) : Nat := k.2.2.1
abbrev Mt.ret (k : Mt) : Option FieldType := k.2.2.2.1
abbrev Mt.rm (k : Mt) : Room := k.2.2.2.2
/-- the run from S ends, as G says -/
def Go (E : Cx) (G : State → Outcome → Prop) (S : State) : Prop := ∃ s₂ o, Steps E.p.tables E.e E.below S s₂ ∧ s₂.status = .running ∧ Ended s₂ E.below o ∧ G s₂ o
abbrev Fm (E : Cx) (T : State) (pc : Nat) (Ls : Array Slot) (st : List Value) : State := T.setTop (mkF E.m pc Ls st)
theorem nb {a b : Nat} (h : Nat.ble a b = true) : a ≤ b := Nat.le_of_ble_eq_true h
theorem Go.step {E : Cx} {G : State → Outcome → Prop} {S S' : State} (g : Go E G S') (k : ∀ t, Steps E.p.tables E.e E.below S' t → Steps E.p.tables E.e E.below S t) : Go E G S := by
  obtain ⟨s₂, o, h1, h2⟩ := g
  exact ⟨s₂, o, k _ h1, h2⟩
theorem Go.mono {E : Cx} {G G' : State → Outcome → Prop} {S : State} (g : Go E G S) (k : ∀ t o, G t o → G' t o) : Go E G' S := by
  obtain ⟨s₂, o, h1, h2, h3, h4⟩ := g
  exact ⟨s₂, o, h1, h2, h3, k _ _ h4⟩
/-- where a walk stands: its tables' start Z, the heap h, what it has made at the most; what it wrote lies at or above n0 -/
def On (k : Mt) (Z : State) (n0 : Nat) (E : Cx) (T : State) (h : Heap) (cells slots : Nat) : Prop :=
  (E.p.tables.exec = Jvm.exec ∧ E.c.code = k.bytes ∧ E.c.maxLocals = k.maxL ∧ E.s.vm.findClass k.y.cls = some E.m.cls ∧ E.meth.sig.returnType = k.ret ∧ E.meth.locks = false ∧ Z.Warmed39 E.s.vm ∧ E.meth.name = k.y.name ∧ E.s.methodNamed? k.y = some E.m) ∧ T.heap = h ∧
  ∃ locs cells' slots', cells' ≤ cells ∧ slots' ≤ slots ∧ Fr n0 locs ∧ Stand E.p E.l E.e k.rm E.s E.m E.args E.below E.meth E.c T locs cells' slots'
section
variable {k : Mt} {Z : State} {n0 : Nat} {E : Cx} {T : State} {h : Heap} {cells slots : Nat} {G : State → Outcome → Prop} {a0 : Array Value} {pc pc' : Nat} {Ls : Array Slot} {st : List Value}
theorem On.exec (W : On k Z n0 E T h cells slots) : E.p.tables.exec = Jvm.exec := W.1.1
theorem On.bytes (W : On k Z n0 E T h cells slots) : E.c.code = k.bytes := W.1.2.1
theorem On.maxL (W : On k Z n0 E T h cells slots) : E.c.maxLocals = k.maxL := W.1.2.2.1
theorem On.own (W : On k Z n0 E T h cells slots) : E.s.vm.findClass k.y.cls = some E.m.cls := W.1.2.2.2.1
theorem On.ret (W : On k Z n0 E T h cells slots) : E.meth.sig.returnType = k.ret := W.1.2.2.2.2.1
theorem On.locks (W : On k Z n0 E T h cells slots) : E.meth.locks = false := W.1.2.2.2.2.2.1
theorem On.hZ (W : On k Z n0 E T h cells slots) : Z.Warmed39 E.s.vm := W.1.2.2.2.2.2.2.1
theorem On.nm (W : On k Z n0 E T h cells slots) : E.meth.name = k.y.name := W.1.2.2.2.2.2.2.2.1
theorem On.named (W : On k Z n0 E T h cells slots) : E.s.methodNamed? k.y = some E.m := W.1.2.2.2.2.2.2.2.2
theorem On.heap (W : On k Z n0 E T h cells slots) : T.heap = h := W.2.1
theorem On.here (W : On k Z n0 E T h cells slots) : At T E.m E.c E.below := by obtain ⟨-, -, _, _, _, -, -, -, X⟩ := W; exact X.here
theorem On.mono {cells' slots' : Nat} (W : On k Z n0 E T h cells slots) (h1 : cells ≤ cells') (h2 : slots ≤ slots') : On k Z n0 E T h cells' slots' := by
  obtain ⟨q, e, L, a, b, ha, hb, r⟩ := W; exact ⟨q, e, L, a, b, Nat.le_trans ha h1, Nat.le_trans hb h2, r⟩
theorem On.sub {h' : Heap} (W : On k Z n0 E T h cells slots) (q : h = h') : On k Z n0 E T h' cells slots := q ▸ W
theorem On.heq {h' : Heap} (W : On k Z n0 E T h cells slots) (q : h' = h) : On k Z n0 E T h' cells slots := q.symm ▸ W
theorem go_iloadN (W : On k Z n0 E T h cells slots) {i : Fin 4} {v : Int32} (hd : decode k.bytes pc = .ok (.iload_n i, 1)) (hl : Ls[i.val]? = some (.val (.int v))) (hp : pc + 1 = pc') (g : Go E G (Fm E T pc' Ls (.int v :: st))) : Go E G (Fm E T pc Ls st) := by
  subst hp; exact g.step fun t r => XS.iloadN W.here W.exec rfl (hb W.bytes hd) hl r
theorem go_iload (W : On k Z n0 E T h cells slots) {i : Nat} {v : Int32} (hd : decode k.bytes pc = .ok (.iload i, 2)) (hl : Ls[i]? = some (.val (.int v))) (hp : pc + 2 = pc') (g : Go E G (Fm E T pc' Ls (.int v :: st))) : Go E G (Fm E T pc Ls st) := by
  subst hp; exact g.step fun t r => XS.iload W.here W.exec rfl (hb W.bytes hd) hl r
theorem go_istoreN (W : On k Z n0 E T h cells slots) {i : Fin 4} {v : Int32} {l' : Array Slot} (hd : decode k.bytes pc = .ok (.istore_n i, 1)) (hl : storeLocals Ls i.val (.int v) = some l') (hp : pc + 1 = pc') (g : Go E G (Fm E T pc' l' st)) : Go E G (Fm E T pc Ls (.int v :: st)) := by
  subst hp; exact g.step fun t r => XS.istoreN W.here W.exec rfl (hb W.bytes hd) rfl hl r
theorem go_istore (W : On k Z n0 E T h cells slots) {i : Nat} {v : Int32} {l' : Array Slot} (hd : decode k.bytes pc = .ok (.istore i, 2)) (hl : storeLocals Ls i (.int v) = some l') (hp : pc + 2 = pc') (g : Go E G (Fm E T pc' l' st)) : Go E G (Fm E T pc Ls (.int v :: st)) := by
  subst hp; exact g.step fun t r => XS.istore W.here W.exec rfl (hb W.bytes hd) rfl hl r
theorem go_lloadN (W : On k Z n0 E T h cells slots) {i : Fin 4} {v : Int64} (hd : decode k.bytes pc = .ok (.lload_n i, 1)) (hl : Ls[i.val]? = some (.val (.long v))) (hp : pc + 1 = pc') (g : Go E G (Fm E T pc' Ls (.long v :: st))) : Go E G (Fm E T pc Ls st) := by
  subst hp; exact g.step fun t r => XS.lloadN W.here W.exec rfl (hb W.bytes hd) hl r
theorem go_lload (W : On k Z n0 E T h cells slots) {i : Nat} {v : Int64} (hd : decode k.bytes pc = .ok (.lload i, 2)) (hl : Ls[i]? = some (.val (.long v))) (hp : pc + 2 = pc') (g : Go E G (Fm E T pc' Ls (.long v :: st))) : Go E G (Fm E T pc Ls st) := by
  subst hp; exact g.step fun t r => XS.lload W.here W.exec rfl (hb W.bytes hd) hl r
theorem go_lstoreN (W : On k Z n0 E T h cells slots) {i : Fin 4} {v : Int64} {l' : Array Slot} (hd : decode k.bytes pc = .ok (.lstore_n i, 1)) (hl : storeLocals Ls i.val (.long v) = some l') (hp : pc + 1 = pc') (g : Go E G (Fm E T pc' l' st)) : Go E G (Fm E T pc Ls (.long v :: st)) := by
  subst hp; exact g.step fun t r => XS.lstoreN W.here W.exec rfl (hb W.bytes hd) rfl hl r
theorem go_lstore (W : On k Z n0 E T h cells slots) {i : Nat} {v : Int64} {l' : Array Slot} (hd : decode k.bytes pc = .ok (.lstore i, 2)) (hl : storeLocals Ls i (.long v) = some l') (hp : pc + 2 = pc') (g : Go E G (Fm E T pc' l' st)) : Go E G (Fm E T pc Ls (.long v :: st)) := by
  subst hp; exact g.step fun t r => XS.lstore W.here W.exec rfl (hb W.bytes hd) rfl hl r
theorem go_aloadN (W : On k Z n0 E T h cells slots) {i : Fin 4} {v : Value} (hd : decode k.bytes pc = .ok (.aload_n i, 1)) (hl : Ls[i.val]? = some (.val v)) (hv : v.isRef = true) (hp : pc + 1 = pc') (g : Go E G (Fm E T pc' Ls (v :: st))) : Go E G (Fm E T pc Ls st) := by
  subst hp; exact g.step fun t r => XS.aloadN W.here W.exec rfl (hb W.bytes hd) hl hv r
theorem go_aload (W : On k Z n0 E T h cells slots) {i : Nat} {v : Value} (hd : decode k.bytes pc = .ok (.aload i, 2)) (hl : Ls[i]? = some (.val v)) (hv : v.isRef = true) (hp : pc + 2 = pc') (g : Go E G (Fm E T pc' Ls (v :: st))) : Go E G (Fm E T pc Ls st) := by
  subst hp; exact g.step fun t r => XS.aload W.here W.exec rfl (hb W.bytes hd) hl hv r
theorem go_astoreN (W : On k Z n0 E T h cells slots) {i : Fin 4} {v : Value} {l' : Array Slot} (hd : decode k.bytes pc = .ok (.astore_n i, 1)) (hv : v.isRef = true) (hl : storeLocals Ls i.val v = some l') (hp : pc + 1 = pc') (g : Go E G (Fm E T pc' l' st)) : Go E G (Fm E T pc Ls (v :: st)) := by
  subst hp; exact g.step fun t r => XS.astoreN W.here W.exec rfl (hb W.bytes hd) rfl hv hl r
theorem go_astore (W : On k Z n0 E T h cells slots) {i : Nat} {v : Value} {l' : Array Slot} (hd : decode k.bytes pc = .ok (.astore i, 2)) (hv : v.isRef = true) (hl : storeLocals Ls i v = some l') (hp : pc + 2 = pc') (g : Go E G (Fm E T pc' l' st)) : Go E G (Fm E T pc Ls (v :: st)) := by
  subst hp; exact g.step fun t r => XS.astore W.here W.exec rfl (hb W.bytes hd) rfl hv hl r
theorem go_iconst (W : On k Z n0 E T h cells slots) {i : Int} {z : Int32} (hd : decode k.bytes pc = .ok (.iconst i, 1)) (hz : Int32.ofInt i = z) (hp : pc + 1 = pc') (g : Go E G (Fm E T pc' Ls (.int z :: st))) : Go E G (Fm E T pc Ls st) := by
  subst hp; exact g.step fun t r => XS.iconst W.here W.exec rfl (hb W.bytes hd) (hz.symm ▸ r)
theorem go_bipush (W : On k Z n0 E T h cells slots) {i : Int} {z : Int32} (hd : decode k.bytes pc = .ok (.bipush i, 2)) (hz : (Int8.ofInt i).toInt32 = z) (hp : pc + 2 = pc') (g : Go E G (Fm E T pc' Ls (.int z :: st))) : Go E G (Fm E T pc Ls st) := by
  subst hp; exact g.step fun t r => XS.bipush W.here W.exec rfl (hb W.bytes hd) (hz.symm ▸ r)
theorem go_sipush (W : On k Z n0 E T h cells slots) {i : Int} {z : Int32} (hd : decode k.bytes pc = .ok (.sipush i, 3)) (hz : (Int16.ofInt i).toInt32 = z) (hp : pc + 3 = pc') (g : Go E G (Fm E T pc' Ls (.int z :: st))) : Go E G (Fm E T pc Ls st) := by
  subst hp; exact g.step fun t r => XS.sipush W.here W.exec rfl (hb W.bytes hd) (hz.symm ▸ r)
theorem go_lconst (W : On k Z n0 E T h cells slots) {i : Fin 2} {z : Int64} (hd : decode k.bytes pc = .ok (.lconst i, 1)) (hz : Int64.ofNat i = z) (hp : pc + 1 = pc') (g : Go E G (Fm E T pc' Ls (.long z :: st))) : Go E G (Fm E T pc Ls st) := by
  subst hp; exact g.step fun t r => XS.lconst W.here W.exec rfl (hb W.bytes hd) (hz.symm ▸ r)
theorem go_aconstNull (W : On k Z n0 E T h cells slots)  (hd : decode k.bytes pc = .ok (.aconst_null, 1))  (hp : pc + 1 = pc') (g : Go E G (Fm E T pc' Ls (.null :: st))) : Go E G (Fm E T pc Ls st) := by
  subst hp; exact g.step fun t r => XS.aconstNull W.here W.exec rfl (hb W.bytes hd) r
theorem go_iadd (W : On k Z n0 E T h cells slots) {x y : Int32} (hd : decode k.bytes pc = .ok (.iadd, 1))  (hp : pc + 1 = pc') (g : Go E G (Fm E T pc' Ls (.int (x + y) :: st))) : Go E G (Fm E T pc Ls (.int y :: .int x :: st)) := by
  subst hp; exact g.step fun t r => XS.iadd W.here W.exec rfl (hb W.bytes hd) rfl r
theorem go_ladd (W : On k Z n0 E T h cells slots) {x y : Int64} (hd : decode k.bytes pc = .ok (.ladd, 1))  (hp : pc + 1 = pc') (g : Go E G (Fm E T pc' Ls (.long (x + y) :: st))) : Go E G (Fm E T pc Ls (.long y :: .long x :: st)) := by
  subst hp; exact g.step fun t r => XS.ladd W.here W.exec rfl (hb W.bytes hd) rfl r
theorem go_isub (W : On k Z n0 E T h cells slots) {x y : Int32} (hd : decode k.bytes pc = .ok (.isub, 1))  (hp : pc + 1 = pc') (g : Go E G (Fm E T pc' Ls (.int (x - y) :: st))) : Go E G (Fm E T pc Ls (.int y :: .int x :: st)) := by
  subst hp; exact g.step fun t r => XS.isub W.here W.exec rfl (hb W.bytes hd) rfl r
theorem go_lsub (W : On k Z n0 E T h cells slots) {x y : Int64} (hd : decode k.bytes pc = .ok (.lsub, 1))  (hp : pc + 1 = pc') (g : Go E G (Fm E T pc' Ls (.long (x - y) :: st))) : Go E G (Fm E T pc Ls (.long y :: .long x :: st)) := by
  subst hp; exact g.step fun t r => XS.lsub W.here W.exec rfl (hb W.bytes hd) rfl r
theorem go_imul (W : On k Z n0 E T h cells slots) {x y : Int32} (hd : decode k.bytes pc = .ok (.imul, 1))  (hp : pc + 1 = pc') (g : Go E G (Fm E T pc' Ls (.int (x * y) :: st))) : Go E G (Fm E T pc Ls (.int y :: .int x :: st)) := by
  subst hp; exact g.step fun t r => XS.imul W.here W.exec rfl (hb W.bytes hd) rfl r
theorem go_lmul (W : On k Z n0 E T h cells slots) {x y : Int64} (hd : decode k.bytes pc = .ok (.lmul, 1))  (hp : pc + 1 = pc') (g : Go E G (Fm E T pc' Ls (.long (x * y) :: st))) : Go E G (Fm E T pc Ls (.long y :: .long x :: st)) := by
  subst hp; exact g.step fun t r => XS.lmul W.here W.exec rfl (hb W.bytes hd) rfl r
theorem go_iand (W : On k Z n0 E T h cells slots) {x y : Int32} (hd : decode k.bytes pc = .ok (.iand, 1))  (hp : pc + 1 = pc') (g : Go E G (Fm E T pc' Ls (.int (x &&& y) :: st))) : Go E G (Fm E T pc Ls (.int y :: .int x :: st)) := by
  subst hp; exact g.step fun t r => XS.iand W.here W.exec rfl (hb W.bytes hd) rfl r
theorem go_land (W : On k Z n0 E T h cells slots) {x y : Int64} (hd : decode k.bytes pc = .ok (.land, 1))  (hp : pc + 1 = pc') (g : Go E G (Fm E T pc' Ls (.long (x &&& y) :: st))) : Go E G (Fm E T pc Ls (.long y :: .long x :: st)) := by
  subst hp; exact g.step fun t r => XS.land W.here W.exec rfl (hb W.bytes hd) rfl r
theorem go_ior (W : On k Z n0 E T h cells slots) {x y : Int32} (hd : decode k.bytes pc = .ok (.ior, 1))  (hp : pc + 1 = pc') (g : Go E G (Fm E T pc' Ls (.int (x ||| y) :: st))) : Go E G (Fm E T pc Ls (.int y :: .int x :: st)) := by
  subst hp; exact g.step fun t r => XS.ior W.here W.exec rfl (hb W.bytes hd) rfl r
theorem go_lor (W : On k Z n0 E T h cells slots) {x y : Int64} (hd : decode k.bytes pc = .ok (.lor, 1))  (hp : pc + 1 = pc') (g : Go E G (Fm E T pc' Ls (.long (x ||| y) :: st))) : Go E G (Fm E T pc Ls (.long y :: .long x :: st)) := by
  subst hp; exact g.step fun t r => XS.lor W.here W.exec rfl (hb W.bytes hd) rfl r
theorem go_ixor (W : On k Z n0 E T h cells slots) {x y : Int32} (hd : decode k.bytes pc = .ok (.ixor, 1))  (hp : pc + 1 = pc') (g : Go E G (Fm E T pc' Ls (.int (x ^^^ y) :: st))) : Go E G (Fm E T pc Ls (.int y :: .int x :: st)) := by
  subst hp; exact g.step fun t r => XS.ixor W.here W.exec rfl (hb W.bytes hd) rfl r
theorem go_lxor (W : On k Z n0 E T h cells slots) {x y : Int64} (hd : decode k.bytes pc = .ok (.lxor, 1))  (hp : pc + 1 = pc') (g : Go E G (Fm E T pc' Ls (.long (x ^^^ y) :: st))) : Go E G (Fm E T pc Ls (.long y :: .long x :: st)) := by
  subst hp; exact g.step fun t r => XS.lxor W.here W.exec rfl (hb W.bytes hd) rfl r
theorem go_iaddZ (W : On k Z n0 E T h cells slots) {x y z : Int32} (hd : decode k.bytes pc = .ok (.iadd, 1)) (hz : x + y = z) (hp : pc + 1 = pc') (g : Go E G (Fm E T pc' Ls (.int z :: st))) : Go E G (Fm E T pc Ls (.int y :: .int x :: st)) := by
  subst hp; exact g.step fun t r => XS.iadd W.here W.exec rfl (hb W.bytes hd) rfl (hz.symm ▸ r)
theorem go_isubZ (W : On k Z n0 E T h cells slots) {x y z : Int32} (hd : decode k.bytes pc = .ok (.isub, 1)) (hz : x - y = z) (hp : pc + 1 = pc') (g : Go E G (Fm E T pc' Ls (.int z :: st))) : Go E G (Fm E T pc Ls (.int y :: .int x :: st)) := by
  subst hp; exact g.step fun t r => XS.isub W.here W.exec rfl (hb W.bytes hd) rfl (hz.symm ▸ r)
theorem go_imulZ (W : On k Z n0 E T h cells slots) {x y z : Int32} (hd : decode k.bytes pc = .ok (.imul, 1)) (hz : x * y = z) (hp : pc + 1 = pc') (g : Go E G (Fm E T pc' Ls (.int z :: st))) : Go E G (Fm E T pc Ls (.int y :: .int x :: st)) := by
  subst hp; exact g.step fun t r => XS.imul W.here W.exec rfl (hb W.bytes hd) rfl (hz.symm ▸ r)
theorem go_iandZ (W : On k Z n0 E T h cells slots) {x y z : Int32} (hd : decode k.bytes pc = .ok (.iand, 1)) (hz : x &&& y = z) (hp : pc + 1 = pc') (g : Go E G (Fm E T pc' Ls (.int z :: st))) : Go E G (Fm E T pc Ls (.int y :: .int x :: st)) := by
  subst hp; exact g.step fun t r => XS.iand W.here W.exec rfl (hb W.bytes hd) rfl (hz.symm ▸ r)
theorem go_iorZ (W : On k Z n0 E T h cells slots) {x y z : Int32} (hd : decode k.bytes pc = .ok (.ior, 1)) (hz : x ||| y = z) (hp : pc + 1 = pc') (g : Go E G (Fm E T pc' Ls (.int z :: st))) : Go E G (Fm E T pc Ls (.int y :: .int x :: st)) := by
  subst hp; exact g.step fun t r => XS.ior W.here W.exec rfl (hb W.bytes hd) rfl (hz.symm ▸ r)
theorem go_ixorZ (W : On k Z n0 E T h cells slots) {x y z : Int32} (hd : decode k.bytes pc = .ok (.ixor, 1)) (hz : x ^^^ y = z) (hp : pc + 1 = pc') (g : Go E G (Fm E T pc' Ls (.int z :: st))) : Go E G (Fm E T pc Ls (.int y :: .int x :: st)) := by
  subst hp; exact g.step fun t r => XS.ixor W.here W.exec rfl (hb W.bytes hd) rfl (hz.symm ▸ r)
theorem go_idiv (W : On k Z n0 E T h cells slots) {x y : Int32} (hd : decode k.bytes pc = .ok (.idiv, 1)) (hy : y ≠ 0) (hp : pc + 1 = pc') (g : Go E G (Fm E T pc' Ls (.int (x / y) :: st))) : Go E G (Fm E T pc Ls (.int y :: .int x :: st)) := by
  subst hp; exact g.step fun t r => XS.idiv W.here W.exec rfl (hb W.bytes hd) rfl hy r
theorem go_irem (W : On k Z n0 E T h cells slots) {x y : Int32} (hd : decode k.bytes pc = .ok (.irem, 1)) (hy : y ≠ 0) (hp : pc + 1 = pc') (g : Go E G (Fm E T pc' Ls (.int (x % y) :: st))) : Go E G (Fm E T pc Ls (.int y :: .int x :: st)) := by
  obtain ⟨C, hh, _, _, _, -, -, -, X⟩ := W
  subst hp; exact g.step fun t r => iremM X C.1 rfl (hb C.2.1 hd) rfl hy r
theorem go_ineg (W : On k Z n0 E T h cells slots) {x : Int32} (hd : decode k.bytes pc = .ok (.ineg, 1))  (hp : pc + 1 = pc') (g : Go E G (Fm E T pc' Ls (.int (-x) :: st))) : Go E G (Fm E T pc Ls (.int x :: st)) := by
  subst hp; exact g.step fun t r => XS.ineg W.here W.exec rfl (hb W.bytes hd) rfl r
theorem go_ishl (W : On k Z n0 E T h cells slots) {x y : Int32} (hd : decode k.bytes pc = .ok (.ishl, 1))  (hp : pc + 1 = pc') (g : Go E G (Fm E T pc' Ls (.int (x <<< (y &&& 31)) :: st))) : Go E G (Fm E T pc Ls (.int y :: .int x :: st)) := by
  subst hp; exact g.step fun t r => XS.ishl W.here W.exec rfl (hb W.bytes hd) rfl r
theorem go_ishr (W : On k Z n0 E T h cells slots) {x y : Int32} (hd : decode k.bytes pc = .ok (.ishr, 1))  (hp : pc + 1 = pc') (g : Go E G (Fm E T pc' Ls (.int (x >>> (y &&& 31)) :: st))) : Go E G (Fm E T pc Ls (.int y :: .int x :: st)) := by
  subst hp; exact g.step fun t r => XS.ishr W.here W.exec rfl (hb W.bytes hd) rfl r
theorem go_iushr (W : On k Z n0 E T h cells slots) {x y : Int32} (hd : decode k.bytes pc = .ok (.iushr, 1))  (hp : pc + 1 = pc') (g : Go E G (Fm E T pc' Ls (.int ((x.toUInt32 >>> (y &&& 31).toUInt32).toInt32) :: st))) : Go E G (Fm E T pc Ls (.int y :: .int x :: st)) := by
  subst hp; exact g.step fun t r => XS.iushr W.here W.exec rfl (hb W.bytes hd) rfl r
theorem go_lshl (W : On k Z n0 E T h cells slots) {x : Int64} {y : Int32} (hd : decode k.bytes pc = .ok (.lshl, 1))  (hp : pc + 1 = pc') (g : Go E G (Fm E T pc' Ls (.long (x <<< (y &&& 0x3f).toInt64) :: st))) : Go E G (Fm E T pc Ls (.int y :: .long x :: st)) := by
  subst hp; exact g.step fun t r => XS.lshl W.here W.exec rfl (hb W.bytes hd) rfl r
theorem go_lshr (W : On k Z n0 E T h cells slots) {x : Int64} {y : Int32} (hd : decode k.bytes pc = .ok (.lshr, 1))  (hp : pc + 1 = pc') (g : Go E G (Fm E T pc' Ls (.long (x >>> (y &&& 0x3f).toInt64) :: st))) : Go E G (Fm E T pc Ls (.int y :: .long x :: st)) := by
  subst hp; exact g.step fun t r => XS.lshr W.here W.exec rfl (hb W.bytes hd) rfl r
theorem go_lushr (W : On k Z n0 E T h cells slots) {x : Int64} {y : Int32} (hd : decode k.bytes pc = .ok (.lushr, 1))  (hp : pc + 1 = pc') (g : Go E G (Fm E T pc' Ls (.long ((x.toUInt64 >>> (y &&& 0x3f).toInt64.toUInt64).toInt64) :: st))) : Go E G (Fm E T pc Ls (.int y :: .long x :: st)) := by
  subst hp; exact g.step fun t r => XS.lushr W.here W.exec rfl (hb W.bytes hd) rfl r
theorem go_i2l (W : On k Z n0 E T h cells slots) {x : Int32} (hd : decode k.bytes pc = .ok (.i2l, 1))  (hp : pc + 1 = pc') (g : Go E G (Fm E T pc' Ls (.long (x.toInt64) :: st))) : Go E G (Fm E T pc Ls (.int x :: st)) := by
  subst hp; exact g.step fun t r => XS.i2l W.here W.exec rfl (hb W.bytes hd) rfl r
theorem go_l2i (W : On k Z n0 E T h cells slots) {x : Int64} (hd : decode k.bytes pc = .ok (.l2i, 1))  (hp : pc + 1 = pc') (g : Go E G (Fm E T pc' Ls (.int (x.toInt32) :: st))) : Go E G (Fm E T pc Ls (.long x :: st)) := by
  subst hp; exact g.step fun t r => XS.l2i W.here W.exec rfl (hb W.bytes hd) rfl r
theorem go_i2b (W : On k Z n0 E T h cells slots) {x : Int32} (hd : decode k.bytes pc = .ok (.i2b, 1))  (hp : pc + 1 = pc') (g : Go E G (Fm E T pc' Ls (.int (x.toInt8.toInt32) :: st))) : Go E G (Fm E T pc Ls (.int x :: st)) := by
  subst hp; exact g.step fun t r => XS.i2b W.here W.exec rfl (hb W.bytes hd) rfl r
theorem go_i2s (W : On k Z n0 E T h cells slots) {x : Int32} (hd : decode k.bytes pc = .ok (.i2s, 1))  (hp : pc + 1 = pc') (g : Go E G (Fm E T pc' Ls (.int (x.toInt16.toInt32) :: st))) : Go E G (Fm E T pc Ls (.int x :: st)) := by
  subst hp; exact g.step fun t r => XS.i2s W.here W.exec rfl (hb W.bytes hd) rfl r
theorem go_i2c (W : On k Z n0 E T h cells slots) {x : Int32} (hd : decode k.bytes pc = .ok (.i2c, 1))  (hp : pc + 1 = pc') (g : Go E G (Fm E T pc' Ls (.int (x.toUInt32.toUInt16.toUInt32.toInt32) :: st))) : Go E G (Fm E T pc Ls (.int x :: st)) := by
  subst hp; exact g.step fun t r => XS.i2c W.here W.exec rfl (hb W.bytes hd) rfl r
theorem go_lneg (W : On k Z n0 E T h cells slots) {x : Int64} (hd : decode k.bytes pc = .ok (.lneg, 1))  (hp : pc + 1 = pc') (g : Go E G (Fm E T pc' Ls (.long (-x) :: st))) : Go E G (Fm E T pc Ls (.long x :: st)) := by
  subst hp; exact g.step fun t r => XS.lneg W.here W.exec rfl (hb W.bytes hd) rfl r
theorem go_lcmp (W : On k Z n0 E T h cells slots) {x y : Int64} (hd : decode k.bytes pc = .ok (.lcmp, 1))  (hp : pc + 1 = pc') (g : Go E G (Fm E T pc' Ls (.int (lcmpW x y) :: st))) : Go E G (Fm E T pc Ls (.long y :: .long x :: st)) := by
  subst hp; exact g.step fun t r => XS.lcmp W.here W.exec rfl (hb W.bytes hd) rfl r
theorem go_dup (W : On k Z n0 E T h cells slots) {x : Value} (hd : decode k.bytes pc = .ok (.dup, 1)) (hc : x.category = 1) (hp : pc + 1 = pc') (g : Go E G (Fm E T pc' Ls (x :: x :: st))) : Go E G (Fm E T pc Ls (x :: st)) := by
  subst hp; exact g.step fun t r => XS.dup W.here W.exec rfl (hb W.bytes hd) rfl hc r
theorem go_pop (W : On k Z n0 E T h cells slots) {x : Value} (hd : decode k.bytes pc = .ok (.pop, 1)) (hc : x.category = 1) (hp : pc + 1 = pc') (g : Go E G (Fm E T pc' Ls st)) : Go E G (Fm E T pc Ls (x :: st)) := by
  subst hp; exact g.step fun t r => XS.pop W.here W.exec rfl (hb W.bytes hd) rfl hc r
theorem go_dupX1 (W : On k Z n0 E T h cells slots) {x y : Value} (hd : decode k.bytes pc = .ok (.dup_x1, 1)) (hc : x.category = 1) (hc' : y.category = 1) (hp : pc + 1 = pc') (g : Go E G (Fm E T pc' Ls (x :: y :: x :: st))) : Go E G (Fm E T pc Ls (x :: y :: st)) := by
  subst hp; exact g.step fun t r => XS.dupX1 W.here W.exec rfl (hb W.bytes hd) rfl hc hc' r
theorem go_dup2 (W : On k Z n0 E T h cells slots) {x y : Value} (hd : decode k.bytes pc = .ok (.dup2, 1)) (hc : x.category = 1) (hc' : y.category = 1) (hp : pc + 1 = pc') (g : Go E G (Fm E T pc' Ls (x :: y :: x :: y :: st))) : Go E G (Fm E T pc Ls (x :: y :: st)) := by
  subst hp; exact g.step fun t r => XT.dup2 W.here W.exec rfl (hb W.bytes hd) rfl hc hc' r
theorem go_iinc (W : On k Z n0 E T h cells slots) {i : Nat} {cst : Int} {x z : Int32} {l' : Array Slot} (hd : decode k.bytes pc = .ok (.iinc i cst, 3)) (hl : Ls[i]? = some (.val (.int x))) (hz : x + Int32.ofInt cst = z) (hl' : storeLocals Ls i (.int z) = some l') (hp : pc + 3 = pc') (g : Go E G (Fm E T pc' l' st)) : Go E G (Fm E T pc Ls st) := by
  subst hp; exact g.step fun t r => XS.iinc W.here W.exec rfl (hb W.bytes hd) hl (hz.symm ▸ hl') r
theorem go_dupX2 (W : On k Z n0 E T h cells slots) {x y z : Value} (hd : decode k.bytes pc = .ok (.dup_x2, 1)) (h1 : x.category = 1) (h2 : y.category = 1) (h3 : z.category = 1) (hp : pc + 1 = pc') (g : Go E G (Fm E T pc' Ls (x :: y :: z :: x :: st))) : Go E G (Fm E T pc Ls (x :: y :: z :: st)) := by
  subst hp
  refine g.step fun t r => ?_
  have q := W.here; have hx := W.exec; have hd' := hb W.bytes hd
  show Steps E.p.tables E.e E.below (T.setTop { method := E.m, pc := pc, locals := Ls, stack := x :: y :: z :: st, locked := none }) t
  jvm_step q [q.top, hx, hd', h1, h2, h3]
  exact r
theorem go_goto (W : On k Z n0 E T h cells slots) {o : Int} (hd : decode k.bytes pc = .ok (.goto o, 3)) (ho : 0 ≤ (pc : Int) + o) (hp : ((pc : Int) + o).toNat = pc') (g : Go E G (Fm E T pc' Ls st)) : Go E G (Fm E T pc Ls st) := by
  exact g.step fun t r => XS.goto W.here W.exec rfl rfl (hb W.bytes hd) ho hp r
theorem go_icmp_lt (W : On k Z n0 E T h cells slots) {x y : Int32} {o : Int} {pt pf : Nat} (hd : decode k.bytes pc = .ok (.if_icmp .lt o, 3)) (ho : 0 ≤ (pc : Int) + o) (hp : ((pc : Int) + o).toNat = pt) (hq : pc + 3 = pf) (g1 : x < y → Go E G (Fm E T pt Ls st)) (g2 : ¬ x < y → Go E G (Fm E T pf Ls st)) : Go E G (Fm E T pc Ls (.int y :: .int x :: st)) := by
  subst hq
  by_cases q : x < y
  · exact (g1 q).step fun t r => XS.icmpYes W.here W.exec rfl rfl (hb W.bytes hd) rfl (tlt q).1 ho hp r
  · exact (g2 q).step fun t r => XS.icmpNo W.here W.exec rfl (hb W.bytes hd) rfl (flt q).1 r
theorem go_if_lt (W : On k Z n0 E T h cells slots) {x : Int32} {o : Int} {pt pf : Nat} (hd : decode k.bytes pc = .ok (.ifCond .lt o, 3)) (ho : 0 ≤ (pc : Int) + o) (hp : ((pc : Int) + o).toNat = pt) (hq : pc + 3 = pf) (g1 : x < 0 → Go E G (Fm E T pt Ls st)) (g2 : ¬ x < 0 → Go E G (Fm E T pf Ls st)) : Go E G (Fm E T pc Ls (.int x :: st)) := by
  subst hq
  by_cases q : x < 0
  · exact (g1 q).step fun t r => XS.ifYes W.here W.exec rfl rfl (hb W.bytes hd) rfl ((if0 _ _).trans (tlt q).1) ho hp r
  · exact (g2 q).step fun t r => XS.ifNo W.here W.exec rfl (hb W.bytes hd) rfl ((if0 _ _).trans (flt q).1) r
theorem go_icmp_ge (W : On k Z n0 E T h cells slots) {x y : Int32} {o : Int} {pt pf : Nat} (hd : decode k.bytes pc = .ok (.if_icmp .ge o, 3)) (ho : 0 ≤ (pc : Int) + o) (hp : ((pc : Int) + o).toNat = pt) (hq : pc + 3 = pf) (g1 : ¬ x < y → Go E G (Fm E T pt Ls st)) (g2 : x < y → Go E G (Fm E T pf Ls st)) : Go E G (Fm E T pc Ls (.int y :: .int x :: st)) := by
  subst hq
  by_cases q : ¬ x < y
  · exact (g1 q).step fun t r => XS.icmpYes W.here W.exec rfl rfl (hb W.bytes hd) rfl (flt q).2.1 ho hp r
  · replace q := Decidable.not_not.mp q; exact (g2 q).step fun t r => XS.icmpNo W.here W.exec rfl (hb W.bytes hd) rfl (tlt q).2.1 r
theorem go_if_ge (W : On k Z n0 E T h cells slots) {x : Int32} {o : Int} {pt pf : Nat} (hd : decode k.bytes pc = .ok (.ifCond .ge o, 3)) (ho : 0 ≤ (pc : Int) + o) (hp : ((pc : Int) + o).toNat = pt) (hq : pc + 3 = pf) (g1 : ¬ x < 0 → Go E G (Fm E T pt Ls st)) (g2 : x < 0 → Go E G (Fm E T pf Ls st)) : Go E G (Fm E T pc Ls (.int x :: st)) := by
  subst hq
  by_cases q : ¬ x < 0
  · exact (g1 q).step fun t r => XS.ifYes W.here W.exec rfl rfl (hb W.bytes hd) rfl ((if0 _ _).trans (flt q).2.1) ho hp r
  · replace q := Decidable.not_not.mp q; exact (g2 q).step fun t r => XS.ifNo W.here W.exec rfl (hb W.bytes hd) rfl ((if0 _ _).trans (tlt q).2.1) r
theorem go_icmp_gt (W : On k Z n0 E T h cells slots) {x y : Int32} {o : Int} {pt pf : Nat} (hd : decode k.bytes pc = .ok (.if_icmp .gt o, 3)) (ho : 0 ≤ (pc : Int) + o) (hp : ((pc : Int) + o).toNat = pt) (hq : pc + 3 = pf) (g1 : y < x → Go E G (Fm E T pt Ls st)) (g2 : ¬ y < x → Go E G (Fm E T pf Ls st)) : Go E G (Fm E T pc Ls (.int y :: .int x :: st)) := by
  subst hq
  by_cases q : y < x
  · exact (g1 q).step fun t r => XS.icmpYes W.here W.exec rfl rfl (hb W.bytes hd) rfl (tlt q).2.2.1 ho hp r
  · exact (g2 q).step fun t r => XS.icmpNo W.here W.exec rfl (hb W.bytes hd) rfl (flt q).2.2.1 r
theorem go_if_gt (W : On k Z n0 E T h cells slots) {x : Int32} {o : Int} {pt pf : Nat} (hd : decode k.bytes pc = .ok (.ifCond .gt o, 3)) (ho : 0 ≤ (pc : Int) + o) (hp : ((pc : Int) + o).toNat = pt) (hq : pc + 3 = pf) (g1 : 0 < x → Go E G (Fm E T pt Ls st)) (g2 : ¬ 0 < x → Go E G (Fm E T pf Ls st)) : Go E G (Fm E T pc Ls (.int x :: st)) := by
  subst hq
  by_cases q : 0 < x
  · exact (g1 q).step fun t r => XS.ifYes W.here W.exec rfl rfl (hb W.bytes hd) rfl ((if0 _ _).trans (tlt q).2.2.1) ho hp r
  · exact (g2 q).step fun t r => XS.ifNo W.here W.exec rfl (hb W.bytes hd) rfl ((if0 _ _).trans (flt q).2.2.1) r
theorem go_icmp_le (W : On k Z n0 E T h cells slots) {x y : Int32} {o : Int} {pt pf : Nat} (hd : decode k.bytes pc = .ok (.if_icmp .le o, 3)) (ho : 0 ≤ (pc : Int) + o) (hp : ((pc : Int) + o).toNat = pt) (hq : pc + 3 = pf) (g1 : ¬ y < x → Go E G (Fm E T pt Ls st)) (g2 : y < x → Go E G (Fm E T pf Ls st)) : Go E G (Fm E T pc Ls (.int y :: .int x :: st)) := by
  subst hq
  by_cases q : ¬ y < x
  · exact (g1 q).step fun t r => XS.icmpYes W.here W.exec rfl rfl (hb W.bytes hd) rfl (flt q).2.2.2 ho hp r
  · replace q := Decidable.not_not.mp q; exact (g2 q).step fun t r => XS.icmpNo W.here W.exec rfl (hb W.bytes hd) rfl (tlt q).2.2.2 r
theorem go_if_le (W : On k Z n0 E T h cells slots) {x : Int32} {o : Int} {pt pf : Nat} (hd : decode k.bytes pc = .ok (.ifCond .le o, 3)) (ho : 0 ≤ (pc : Int) + o) (hp : ((pc : Int) + o).toNat = pt) (hq : pc + 3 = pf) (g1 : ¬ 0 < x → Go E G (Fm E T pt Ls st)) (g2 : 0 < x → Go E G (Fm E T pf Ls st)) : Go E G (Fm E T pc Ls (.int x :: st)) := by
  subst hq
  by_cases q : ¬ 0 < x
  · exact (g1 q).step fun t r => XS.ifYes W.here W.exec rfl rfl (hb W.bytes hd) rfl ((if0 _ _).trans (flt q).2.2.2) ho hp r
  · replace q := Decidable.not_not.mp q; exact (g2 q).step fun t r => XS.ifNo W.here W.exec rfl (hb W.bytes hd) rfl ((if0 _ _).trans (tlt q).2.2.2) r
theorem go_icmp_eq (W : On k Z n0 E T h cells slots) {x y : Int32} {o : Int} {pt pf : Nat} (hd : decode k.bytes pc = .ok (.if_icmp .eq o, 3)) (ho : 0 ≤ (pc : Int) + o) (hp : ((pc : Int) + o).toNat = pt) (hq : pc + 3 = pf) (g1 : x = y → Go E G (Fm E T pt Ls st)) (g2 : ¬ x = y → Go E G (Fm E T pf Ls st)) : Go E G (Fm E T pc Ls (.int y :: .int x :: st)) := by
  subst hq
  by_cases q : x = y
  · exact (g1 q).step fun t r => XS.icmpYes W.here W.exec rfl rfl (hb W.bytes hd) rfl (teq q).1 ho hp r
  · exact (g2 q).step fun t r => XS.icmpNo W.here W.exec rfl (hb W.bytes hd) rfl (feq q).1 r
theorem go_if_eq (W : On k Z n0 E T h cells slots) {x : Int32} {o : Int} {pt pf : Nat} (hd : decode k.bytes pc = .ok (.ifCond .eq o, 3)) (ho : 0 ≤ (pc : Int) + o) (hp : ((pc : Int) + o).toNat = pt) (hq : pc + 3 = pf) (g1 : x = 0 → Go E G (Fm E T pt Ls st)) (g2 : ¬ x = 0 → Go E G (Fm E T pf Ls st)) : Go E G (Fm E T pc Ls (.int x :: st)) := by
  subst hq
  by_cases q : x = 0
  · exact (g1 q).step fun t r => XS.ifYes W.here W.exec rfl rfl (hb W.bytes hd) rfl ((if0 _ _).trans (teq q).1) ho hp r
  · exact (g2 q).step fun t r => XS.ifNo W.here W.exec rfl (hb W.bytes hd) rfl ((if0 _ _).trans (feq q).1) r
theorem go_icmp_ne (W : On k Z n0 E T h cells slots) {x y : Int32} {o : Int} {pt pf : Nat} (hd : decode k.bytes pc = .ok (.if_icmp .ne o, 3)) (ho : 0 ≤ (pc : Int) + o) (hp : ((pc : Int) + o).toNat = pt) (hq : pc + 3 = pf) (g1 : ¬ x = y → Go E G (Fm E T pt Ls st)) (g2 : x = y → Go E G (Fm E T pf Ls st)) : Go E G (Fm E T pc Ls (.int y :: .int x :: st)) := by
  subst hq
  by_cases q : ¬ x = y
  · exact (g1 q).step fun t r => XS.icmpYes W.here W.exec rfl rfl (hb W.bytes hd) rfl (feq q).2 ho hp r
  · replace q := Decidable.not_not.mp q; exact (g2 q).step fun t r => XS.icmpNo W.here W.exec rfl (hb W.bytes hd) rfl (teq q).2 r
theorem go_if_ne (W : On k Z n0 E T h cells slots) {x : Int32} {o : Int} {pt pf : Nat} (hd : decode k.bytes pc = .ok (.ifCond .ne o, 3)) (ho : 0 ≤ (pc : Int) + o) (hp : ((pc : Int) + o).toNat = pt) (hq : pc + 3 = pf) (g1 : ¬ x = 0 → Go E G (Fm E T pt Ls st)) (g2 : x = 0 → Go E G (Fm E T pf Ls st)) : Go E G (Fm E T pc Ls (.int x :: st)) := by
  subst hq
  by_cases q : ¬ x = 0
  · exact (g1 q).step fun t r => XS.ifYes W.here W.exec rfl rfl (hb W.bytes hd) rfl ((if0 _ _).trans (feq q).2) ho hp r
  · replace q := Decidable.not_not.mp q; exact (g2 q).step fun t r => XS.ifNo W.here W.exec rfl (hb W.bytes hd) rfl ((if0 _ _).trans (teq q).2) r
theorem go_acmp_eq (W : On k Z n0 E T h cells slots) {x y : Value} {o : Int} {pt pf : Nat} (hd : decode k.bytes pc = .ok (.if_acmp .eq o, 3)) (h1 : x.isRef = true) (h2 : y.isRef = true) (ho : 0 ≤ (pc : Int) + o) (hp : ((pc : Int) + o).toNat = pt) (hq : pc + 3 = pf) (g1 : x = y → Go E G (Fm E T pt Ls st)) (g2 : ¬ x = y → Go E G (Fm E T pf Ls st)) : Go E G (Fm E T pc Ls (y :: x :: st)) := by
  obtain ⟨C, hh, _, _, _, -, -, -, X⟩ := W
  by_cases q : x = y
  · exact (g1 q).step fun t r => Jvm.RoadKit.acmp (g := mkF E.m pc Ls (y :: x :: st)) X C.1 rfl h1 h2 (pc0 := pc) (pc' := pt) (same := true) rfl (hb C.2.1 hd) rfl (decide_eq_true q) ho hp.symm r
  · exact (g2 q).step fun t r => Jvm.RoadKit.acmp (g := mkF E.m pc Ls (y :: x :: st)) X C.1 rfl h1 h2 (pc0 := pc) (pc' := pf) (same := false) rfl (hb C.2.1 hd) rfl (decide_eq_false q) ho hq.symm r
theorem go_acmp_ne (W : On k Z n0 E T h cells slots) {x y : Value} {o : Int} {pt pf : Nat} (hd : decode k.bytes pc = .ok (.if_acmp .ne o, 3)) (h1 : x.isRef = true) (h2 : y.isRef = true) (ho : 0 ≤ (pc : Int) + o) (hp : ((pc : Int) + o).toNat = pt) (hq : pc + 3 = pf) (g1 : ¬ x = y → Go E G (Fm E T pt Ls st)) (g2 : x = y → Go E G (Fm E T pf Ls st)) : Go E G (Fm E T pc Ls (y :: x :: st)) := by
  obtain ⟨C, hh, _, _, _, -, -, -, X⟩ := W
  by_cases q : x = y
  · exact (g2 q).step fun t r => Jvm.RoadKit.acmp (g := mkF E.m pc Ls (y :: x :: st)) X C.1 rfl h1 h2 (pc0 := pc) (pc' := pf) (same := true) rfl (hb C.2.1 hd) rfl (decide_eq_true q) ho hq.symm r
  · exact (g1 q).step fun t r => Jvm.RoadKit.acmp (g := mkF E.m pc Ls (y :: x :: st)) X C.1 rfl h1 h2 (pc0 := pc) (pc' := pt) (same := false) rfl (hb C.2.1 hd) rfl (decide_eq_false q) ho hp.symm r
theorem go_ifnull_null (W : On k Z n0 E T h cells slots) {o : Int} (hd : decode k.bytes pc = .ok (.ifnull o, 3)) (ho : 0 ≤ (pc : Int) + o) (hp : ((pc : Int) + o).toNat = pc') (g : Go E G (Fm E T pc' Ls st)) : Go E G (Fm E T pc Ls (.null :: st)) :=
  g.step fun t r => XS.ifnullYes W.here W.exec rfl rfl (hb W.bytes hd) rfl ho hp r
theorem go_ifnull_ref (W : On k Z n0 E T h cells slots) {o : Int} {b : Addr} (hd : decode k.bytes pc = .ok (.ifnull o, 3)) (hp : pc + 3 = pc') (g : Go E G (Fm E T pc' Ls st)) : Go E G (Fm E T pc Ls (.ref b :: st)) := by
  subst hp; exact g.step fun t r => XS.ifnullNo W.here W.exec rfl (hb W.bytes hd) rfl r
theorem go_ifnonnull_ref (W : On k Z n0 E T h cells slots) {o : Int} {b : Addr} (hd : decode k.bytes pc = .ok (.ifnonnull o, 3)) (ho : 0 ≤ (pc : Int) + o) (hp : ((pc : Int) + o).toNat = pc') (g : Go E G (Fm E T pc' Ls st)) : Go E G (Fm E T pc Ls (.ref b :: st)) :=
  g.step fun t r => XS.ifnonnullYes W.here W.exec rfl rfl (hb W.bytes hd) rfl ho hp r
theorem go_ifnonnull_null (W : On k Z n0 E T h cells slots) {o : Int} (hd : decode k.bytes pc = .ok (.ifnonnull o, 3)) (hp : pc + 3 = pc') (g : Go E G (Fm E T pc' Ls st)) : Go E G (Fm E T pc Ls (.null :: st)) := by
  subst hp; exact g.step fun t r => XS.ifnonnullNo W.here W.exec rfl (hb W.bytes hd) rfl r
theorem go_tswIn (W : On k Z n0 E T h cells slots) {dflt low high : Int} {offs : Array Int} {len : Nat} {o : Int} {i : Int32} (hd : decode k.bytes pc = .ok (.tableswitch dflt low high offs, len)) (hin : ¬ (i.toInt < low ∨ i.toInt > high)) (hoff : offs[(i.toInt - low).toNat]? = some o) (ho : 0 ≤ (pc : Int) + o) (hp : ((pc : Int) + o).toNat = pc') (g : Go E G (Fm E T pc' Ls st)) : Go E G (Fm E T pc Ls (.int i :: st)) :=
  g.step fun t r => XS.tswIn W.here W.exec rfl rfl (hb W.bytes hd) rfl hin hoff ho hp r
theorem go_tswOut (W : On k Z n0 E T h cells slots) {dflt low high : Int} {offs : Array Int} {len : Nat} {i : Int32} (hd : decode k.bytes pc = .ok (.tableswitch dflt low high offs, len)) (hout : i.toInt < low ∨ i.toInt > high) (ho : 0 ≤ (pc : Int) + dflt) (hp : ((pc : Int) + dflt).toNat = pc') (g : Go E G (Fm E T pc' Ls st)) : Go E G (Fm E T pc Ls (.int i :: st)) :=
  g.step fun t r => XS.tswOut W.here W.exec rfl rfl (hb W.bytes hd) rfl hout ho hp r
theorem go_ldcInt (W : On k Z n0 E T h cells slots) {index : Nat} {v : Int32} (w : (Cond.constant k.y.cls index v).before a0 Z = true) (hd : decode k.bytes pc = .ok (.ldc index, 2)) (hp : pc + 2 = pc') (g : Go E G (Fm E T pc' Ls (.int v :: st))) : Go E G (Fm E T pc Ls st) := by
  obtain ⟨C, hh, _, _, _, -, -, -, X⟩ := W
  subst hp; exact g.step fun t r => X.ldcInt C.1 C.2.2.2.1 (mvT C.2.2.2.2.2.2.1 w) (g := mkF E.m pc Ls st) rfl (hb C.2.1 hd) _ r
theorem go_ldcwInt (W : On k Z n0 E T h cells slots) {index : Nat} {v : Int32} (w : (Cond.constant k.y.cls index v).before a0 Z = true) (hd : decode k.bytes pc = .ok (.ldc_w index, 3)) (hp : pc + 3 = pc') (g : Go E G (Fm E T pc' Ls (.int v :: st))) : Go E G (Fm E T pc Ls st) := by
  obtain ⟨C, hh, _, _, _, -, -, -, X⟩ := W
  subst hp; exact g.step fun t r => X.ldcwInt C.1 C.2.2.2.1 (mvT C.2.2.2.2.2.2.1 w) (g := mkF E.m pc Ls st) rfl (hb C.2.1 hd) _ r
theorem go_ldc2Long (W : On k Z n0 E T h cells slots) {index : Nat} {v : Int64} (w : (Cond.constantLong k.y.cls index v).before a0 Z = true) (hd : decode k.bytes pc = .ok (.ldc2_w index, 3)) (hp : pc + 3 = pc') (g : Go E G (Fm E T pc' Ls (.long v :: st))) : Go E G (Fm E T pc Ls st) := by
  obtain ⟨C, hh, _, _, _, -, -, -, X⟩ := W
  subst hp; exact g.step fun t r => X.ldc2Long C.1 C.2.2.2.1 (mvT C.2.2.2.2.2.2.1 w) (g := mkF E.m pc Ls st) rfl (hb C.2.1 hd) _ r
/-! fields -/
theorem go_getF (W : On k Z n0 E T h cells slots) {R0 O n d host : String} {index : Nat} (w : (Cond.fieldLink k.y.cls index R0 n d).before a0 Z = true ∨ (Cond.fieldLinkNest k.y.cls index R0 n d host).before a0 Z = true) (via : Via Z R0 O n d) {a : Addr} {v : Value} (F : Fld Z h a O n d v)
    (hd : decode k.bytes pc = .ok (.getfield index, 3)) (hp : pc + 3 = pc') (g : ∀ T', On k Z n0 E T' h cells slots → Go E G (Fm E T' pc' Ls (v :: st))) : Go E G (Fm E T pc Ls (.ref a :: st)) := by
  obtain ⟨C, hh, L, a1, b1, ha, hb1, hF, X⟩ := W
  subst hp
  obtain ⟨T', X', e', st'⟩ := getF X C.1 C.2.2.2.2.2.2.1 C.2.2.2.1 w via hh F (g := mkF E.m pc Ls (.ref a :: st)) rfl rfl (hb C.2.1 hd)
  exact (g T' ⟨C, e', L, a1, b1, ha, hb1, hF, X'⟩).step st'
theorem go_getS (W : On k Z n0 E T h cells slots) {R0 O n d host : String} {index : Nat} (w : (Cond.fieldLink k.y.cls index R0 n d).before a0 Z = true ∨ (Cond.fieldLinkNest k.y.cls index R0 n d host).before a0 Z = true) (via : Via Z R0 O n d) {v : Value} (F : Sta Z h O n d v)
    (hd : decode k.bytes pc = .ok (.getstatic index, 3)) (hp : pc + 3 = pc') (g : ∀ T', On k Z n0 E T' h cells slots → Go E G (Fm E T' pc' Ls (v :: st))) : Go E G (Fm E T pc Ls st) := by
  obtain ⟨C, hh, L, a1, b1, ha, hb1, hF, X⟩ := W
  subst hp
  obtain ⟨T', X', e', st'⟩ := getS2 X C.1 C.2.2.2.2.2.2.1 C.2.2.2.1 w via hh F (g := mkF E.m pc Ls st) rfl (hb C.2.1 hd)
  exact (g T' ⟨C, e', L, a1, b1, ha, hb1, hF, X'⟩).step st'
theorem go_putF (W : On k Z n0 E T h cells slots) {R0 O n d host K : String} {index kk : Nat} {ty : FieldType} (w : (Cond.fieldLink k.y.cls index R0 n d).before a0 Z = true ∨ (Cond.fieldLinkNest k.y.cls index R0 n d host).before a0 Z = true) (via : Via Z R0 O n d) {a : Addr} {v old : Value} (F : Fld Z h a O n d old) (Ex : Exa Z h a K)
    (L : (Cond.lays K O n d).before a0 Z = true ∨ ((Cond.laysFinal K O n d).before a0 Z = true ∧ k.y.cls = O ∧ k.y.name = "<init>")) (wi : (Cond.instantiable K kk).before a0 Z = true) (hty : parseFieldDescriptor d = some ty) (hn : narrow ty v = v) (hf : fits ty v = true) (hn0 : n0 ≤ a)
    (hd : decode k.bytes pc = .ok (.putfield index, 3)) (hp : pc + 3 = pc') (g : ∀ T' h', On k Z n0 E T' h' cells slots → Wr h h' a (Jvm.RoadKit.slotOf Z O n d) v → Go E G (Fm E T' pc' Ls st)) : Go E G (Fm E T pc Ls (v :: .ref a :: st)) := by
  obtain ⟨C, hh, Lc, a1, b1, ha, hb1, hF, X⟩ := W
  subst hp
  obtain ⟨T', h', X', e', W', st'⟩ := putF X C.1 C.2.2.2.2.2.2.1 C.2.2.2.1 w via hh F Ex (L.imp id fun q => ⟨q.1, q.2.1, C.2.2.2.2.2.2.2.1.trans q.2.2⟩) wi hty hn hf (g := mkF E.m pc Ls (v :: .ref a :: st)) rfl rfl (hb C.2.1 hd)
  exact (g T' h' ⟨C, e', _, a1, b1, ha, hb1, Fr.snoc X' hF hn0, X'⟩ W').step st'
theorem go_new (W : On k Z n0 E T h cells slots) {K : String} {index n : Nat} (w : (Cond.classLink k.y.cls index K).before a0 Z = true) (wi : (Cond.instantiable K n).before a0 Z = true) (wz : (Cond.initialized K).before a0 Z = true) (hd : decode k.bytes pc = .ok (.new index, 3)) (hc : cells + 1 ≤ k.rm.cells) (hl : slots + n ≤ k.rm.slots) (hp : pc + 3 = pc')
    (g : ∀ T' h' a, a = h.size → On k Z n0 E T' h' (cells + 1) (slots + n) → Ext h h' → Exa Z h' a K → (∀ {O nm d : String} {ty : FieldType}, Laid Z a0 K O nm d → parseFieldDescriptor d = some ty → Fld Z h' a O nm d (defaultValue ty)) → (∃ cell : Cell, h'[a]? = some cell ∧ cell.vm = .none ∧ cell.monitor = {}) → Go E G (Fm E T' pc' Ls (.ref a :: st))) : Go E G (Fm E T pc Ls st) := by
  obtain ⟨C, hh, L, a1, b1, ha, hb1, hF, X⟩ := W
  subst hp
  obtain ⟨T', h', X', e', E', A', D', M', st'⟩ := newO X C.1 C.2.2.2.2.2.2.1 C.2.2.2.1 w wi wz hh (g := mkF E.m pc Ls st) rfl (hb C.2.1 hd) (Nat.le_trans (Nat.add_le_add_right ha 1) hc) (Nat.le_trans (Nat.add_le_add_right hb1 n) hl)
  exact (g T' h' _ rfl ⟨C, e', L, _, _, Nat.add_le_add_right ha 1, Nat.add_le_add_right hb1 n, hF, X'⟩ E' A' D' M').step st'
theorem go_initO (W : On k Z n0 E T h cells slots) {index : Nat} (w1 : (Cond.methodLink k.y.cls index Lib.objectInit).before a0 Z = true) (w2 : (Cond.instanceMethod Lib.objectInit).before a0 Z = true) (w3 : (Cond.code Lib.objectInit ⟨#[0xb1]⟩ 1 none).before a0 Z = true) {a : Addr} (hd : decode k.bytes pc = .ok (.invokespecial index, 3)) (hm : Ls.size = k.maxL) (hf : 1 ≤ k.rm.frames) (hl : (st.map fun v => v.category).sum + 12 ≤ k.rm.locals) (hp : pc + 3 = pc')
    (g : ∀ T', On k Z n0 E T' h cells slots → Go E G (Fm E T' pc' Ls st)) : Go E G (Fm E T pc Ls (.ref a :: st)) := by
  obtain ⟨C, hh, L, a1, b1, ha, hb1, hF, X⟩ := W
  subst hp
  obtain ⟨T', X', e', st'⟩ := initO X C.1 C.2.2.2.2.2.2.1 C.2.2.2.1 w1 w2 w3 hh (g := mkF E.m pc Ls (.ref a :: st)) rfl (hm.trans C.2.2.1.symm) rfl (hb C.2.1 hd) hf (W := (st.map fun v => v.category).sum) (by show 2 * 0 + _ ≤ _; omega) hl
  exact (g T' ⟨C, e', L, a1, b1, ha, hb1, hF, X'⟩).step st'
theorem go_castY (W : On k Z n0 E T h cells slots) {K : String} {index : Nat} (w : (Cond.classLink k.y.cls index K).before a0 Z = true) {a : Addr} (F : Ins Z h a K true) (hd : decode k.bytes pc = .ok (.checkcast index, 3)) (hp : pc + 3 = pc') (g : ∀ T', On k Z n0 E T' h cells slots → Go E G (Fm E T' pc' Ls (.ref a :: st))) : Go E G (Fm E T pc Ls (.ref a :: st)) := by
  obtain ⟨C, hh, L, a1, b1, ha, hb1, hF, X⟩ := W
  subst hp
  obtain ⟨T', X', e', st'⟩ := castY X C.1 C.2.2.2.2.2.2.1 C.2.2.2.1 w hh F (g := mkF E.m pc Ls (.ref a :: st)) rfl rfl (hb C.2.1 hd)
  exact (g T' ⟨C, e', L, a1, b1, ha, hb1, hF, X'⟩).step st'
theorem go_instY (W : On k Z n0 E T h cells slots) {K : String} {index : Nat} (w : (Cond.classLink k.y.cls index K).before a0 Z = true) {a : Addr} (F : Ins Z h a K true) (hd : decode k.bytes pc = .ok (.instanceof index, 3)) (hp : pc + 3 = pc') (g : ∀ T', On k Z n0 E T' h cells slots → Go E G (Fm E T' pc' Ls (.int 1 :: st))) : Go E G (Fm E T pc Ls (.ref a :: st)) := by
  obtain ⟨C, hh, L, a1, b1, ha, hb1, hF, X⟩ := W
  subst hp
  obtain ⟨T', X', e', st'⟩ := instY X C.1 C.2.2.2.2.2.2.1 C.2.2.2.1 w hh F (g := mkF E.m pc Ls (.ref a :: st)) rfl rfl (hb C.2.1 hd)
  exact (g T' ⟨C, e', L, a1, b1, ha, hb1, hF, X'⟩).step st'
/-! arrays -/
theorem go_newP (W : On k Z n0 E T h cells slots) {aty : ArrayType} (w : (Cond.arrayClass (newarray.typeOf aty)).before a0 Z = true) {n : Int32} (hd : decode k.bytes pc = .ok (.newarray aty, 2)) (hn : ¬ n < 0) (cap : Nat) (hcap : n.toNatClampNeg ≤ cap) (hb8 : cap * 8 ≤ 536870912) (hc : cells + 1 ≤ k.rm.cells) (hl : slots + cap ≤ k.rm.slots) (hp : pc + 2 = pc')
    (g : ∀ T' h' cA a, a = h.size → On k Z n0 E T' h' (cells + 1) (slots + cap) → Ext h h' → Arr Z h' a (newA cA (newarray.typeOf aty) n) (newarray.typeOf aty) → Go E G (Fm E T' pc' Ls (.ref a :: st))) : Go E G (Fm E T pc Ls (.int n :: st)) := by
  obtain ⟨C, hh, L, a1, b1, ha, hb1, hF, X⟩ := W
  subst hp
  obtain ⟨T', h', cA, X', e', E', A', st'⟩ := newP X C.1 C.2.2.2.2.2.2.1 w hh (g := mkF E.m pc Ls (.int n :: st)) rfl (hb C.2.1 hd) rfl hn hcap hb8 (Nat.le_trans (Nat.add_le_add_right ha 1) hc) (Nat.le_trans (Nat.add_le_add_right hb1 cap) hl)
  exact (g T' h' cA _ rfl ⟨C, e', L, _, _, Nat.add_le_add_right ha 1, Nat.add_le_add_right hb1 cap, hF, X'⟩ E' A').step st'
theorem go_arraylength (W : On k Z n0 E T h cells slots) {a : Addr} {cl : Cell} {ty : FieldType} {z : Int32} (A : Arr Z h a cl ty) (hz : cl.slots.size.toInt32 = z) (hd : decode k.bytes pc = .ok (.arraylength, 1)) (hp : pc + 1 = pc') (g : Go E G (Fm E T pc' Ls (.int z :: st))) : Go E G (Fm E T pc Ls (.ref a :: st)) := by
  obtain ⟨C, hh, L, a1, b1, ha, hb1, hF, X⟩ := W
  subst hp; subst hz
  exact g.step fun t r => X.arraylength C.1 (by rw [hh]; exact A.1) (State.isArrayOf_alike C.2.2.2.2.2.2.1.alike A.2.1) (g := mkF E.m pc Ls (.ref a :: st)) rfl rfl (hb C.2.1 hd) _ r
theorem go_stI (W : On k Z n0 E T h cells slots) {a : Addr} {cl : Cell} (A : Arr Z h a cl .int) {j : Int32} {x : Int32} (hj : ¬ (j < 0 ∨ cl.slots.size ≤ j.toNatClampNeg)) (hn0 : n0 ≤ a) (hd : decode k.bytes pc = .ok (.iastore, 1)) (hp : pc + 1 = pc') (g : ∀ T' h', On k Z n0 E T' h' cells slots → Wr h h' a j.toNatClampNeg (.int x) → Go E G (Fm E T' pc' Ls st)) : Go E G (Fm E T pc Ls (.int x :: .int j :: .ref a :: st)) := by
  obtain ⟨C, hh, L, a1, b1, ha, hb1, hF, X⟩ := W
  subst hp
  obtain ⟨T', h', X', e', W', st'⟩ := stI X C.1 C.2.2.2.2.2.2.1 hh A hj (g := mkF E.m pc Ls (.int x :: .int j :: .ref a :: st)) rfl rfl (hb C.2.1 hd)
  exact (g T' h' ⟨C, e', _, a1, b1, ha, hb1, Fr.snoc X' hF hn0, X'⟩ W').step st'
theorem go_stJ (W : On k Z n0 E T h cells slots) {a : Addr} {cl : Cell} (A : Arr Z h a cl .long) {j : Int32} {x : Int64} (hj : ¬ (j < 0 ∨ cl.slots.size ≤ j.toNatClampNeg)) (hn0 : n0 ≤ a) (hd : decode k.bytes pc = .ok (.lastore, 1)) (hp : pc + 1 = pc') (g : ∀ T' h', On k Z n0 E T' h' cells slots → Wr h h' a j.toNatClampNeg (.long x) → Go E G (Fm E T' pc' Ls st)) : Go E G (Fm E T pc Ls (.long x :: .int j :: .ref a :: st)) := by
  obtain ⟨C, hh, L, a1, b1, ha, hb1, hF, X⟩ := W
  subst hp
  obtain ⟨T', h', X', e', W', st'⟩ := stJ X C.1 C.2.2.2.2.2.2.1 hh A hj (g := mkF E.m pc Ls (.long x :: .int j :: .ref a :: st)) rfl rfl (hb C.2.1 hd)
  exact (g T' h' ⟨C, e', _, a1, b1, ha, hb1, Fr.snoc X' hF hn0, X'⟩ W').step st'
theorem go_stC (W : On k Z n0 E T h cells slots) {a : Addr} {cl : Cell} (A : Arr Z h a cl .char) {j : Int32} {x : Int32} (hj : ¬ (j < 0 ∨ cl.slots.size ≤ j.toNatClampNeg)) (hn0 : n0 ≤ a) (hd : decode k.bytes pc = .ok (.castore, 1)) (hp : pc + 1 = pc') (g : ∀ T' h', On k Z n0 E T' h' cells slots → Wr h h' a j.toNatClampNeg (.int (nar .char x)) → Go E G (Fm E T' pc' Ls st)) : Go E G (Fm E T pc Ls (.int x :: .int j :: .ref a :: st)) := by
  obtain ⟨C, hh, L, a1, b1, ha, hb1, hF, X⟩ := W
  subst hp
  obtain ⟨T', h', X', e', W', st'⟩ := stC X C.1 C.2.2.2.2.2.2.1 hh A hj (g := mkF E.m pc Ls (.int x :: .int j :: .ref a :: st)) rfl rfl (hb C.2.1 hd)
  exact (g T' h' ⟨C, e', _, a1, b1, ha, hb1, Fr.snoc X' hF hn0, X'⟩ W').step st'
theorem go_stB (W : On k Z n0 E T h cells slots) {a : Addr} {cl : Cell} (A : Arr Z h a cl .byte) {j : Int32} {x : Int32} (hj : ¬ (j < 0 ∨ cl.slots.size ≤ j.toNatClampNeg)) (hn0 : n0 ≤ a) (hd : decode k.bytes pc = .ok (.bastore, 1)) (hp : pc + 1 = pc') (g : ∀ T' h', On k Z n0 E T' h' cells slots → Wr h h' a j.toNatClampNeg (.int (nar .byte x)) → Go E G (Fm E T' pc' Ls st)) : Go E G (Fm E T pc Ls (.int x :: .int j :: .ref a :: st)) := by
  obtain ⟨C, hh, L, a1, b1, ha, hb1, hF, X⟩ := W
  subst hp
  obtain ⟨T', h', X', e', W', st'⟩ := stB X C.1 C.2.2.2.2.2.2.1 hh A hj (g := mkF E.m pc Ls (.int x :: .int j :: .ref a :: st)) rfl rfl (hb C.2.1 hd)
  exact (g T' h' ⟨C, e', _, a1, b1, ha, hb1, Fr.snoc X' hF hn0, X'⟩ W').step st'
theorem go_stZ (W : On k Z n0 E T h cells slots) {a : Addr} {cl : Cell} (A : Arr Z h a cl .boolean) {j : Int32} {x : Int32} (hj : ¬ (j < 0 ∨ cl.slots.size ≤ j.toNatClampNeg)) (hn0 : n0 ≤ a) (hd : decode k.bytes pc = .ok (.bastore, 1)) (hp : pc + 1 = pc') (g : ∀ T' h', On k Z n0 E T' h' cells slots → Wr h h' a j.toNatClampNeg (.int (nar .boolean x)) → Go E G (Fm E T' pc' Ls st)) : Go E G (Fm E T pc Ls (.int x :: .int j :: .ref a :: st)) := by
  obtain ⟨C, hh, L, a1, b1, ha, hb1, hF, X⟩ := W
  subst hp
  obtain ⟨T', h', X', e', W', st'⟩ := stZ X C.1 C.2.2.2.2.2.2.1 hh A hj (g := mkF E.m pc Ls (.int x :: .int j :: .ref a :: st)) rfl rfl (hb C.2.1 hd)
  exact (g T' h' ⟨C, e', _, a1, b1, ha, hb1, Fr.snoc X' hF hn0, X'⟩ W').step st'
theorem go_iaload (W : On k Z n0 E T h cells slots) {a : Addr} {cl : Cell} (A : Arr Z h a cl .int) {j : Int32} {v : Value} (hj : ¬ (j < 0 ∨ cl.slots.size ≤ j.toNatClampNeg)) (hat : cl.slots[j.toNatClampNeg]? = some v) (hd : decode k.bytes pc = .ok (.iaload, 1)) (hp : pc + 1 = pc') (g : Go E G (Fm E T pc' Ls (v :: st))) : Go E G (Fm E T pc Ls (.int j :: .ref a :: st)) := by
  obtain ⟨C, hh, L, a1, b1, ha, hb1, hF, X⟩ := W
  subst hp
  exact g.step fun t r => X.iaload C.1 (j := j) (v := v) (by rw [hh]; exact A.1) (State.isArrayOf_alike C.2.2.2.2.2.2.1.alike A.2.1) A.2.2 hj hat (g := mkF E.m pc Ls (.int j :: .ref a :: st)) rfl rfl (hb C.2.1 hd) _ r
theorem go_laload (W : On k Z n0 E T h cells slots) {a : Addr} {cl : Cell} (A : Arr Z h a cl .long) {j : Int32} {v : Value} (hj : ¬ (j < 0 ∨ cl.slots.size ≤ j.toNatClampNeg)) (hat : cl.slots[j.toNatClampNeg]? = some v) (hd : decode k.bytes pc = .ok (.laload, 1)) (hp : pc + 1 = pc') (g : Go E G (Fm E T pc' Ls (v :: st))) : Go E G (Fm E T pc Ls (.int j :: .ref a :: st)) := by
  obtain ⟨C, hh, L, a1, b1, ha, hb1, hF, X⟩ := W
  subst hp
  exact g.step fun t r => X.laload C.1 (j := j) (v := v) (by rw [hh]; exact A.1) (State.isArrayOf_alike C.2.2.2.2.2.2.1.alike A.2.1) A.2.2 hj hat (g := mkF E.m pc Ls (.int j :: .ref a :: st)) rfl rfl (hb C.2.1 hd) _ r
theorem go_caload (W : On k Z n0 E T h cells slots) {a : Addr} {cl : Cell} (A : Arr Z h a cl .char) {j : Int32} {v : Value} (hj : ¬ (j < 0 ∨ cl.slots.size ≤ j.toNatClampNeg)) (hat : cl.slots[j.toNatClampNeg]? = some v) (hd : decode k.bytes pc = .ok (.caload, 1)) (hp : pc + 1 = pc') (g : Go E G (Fm E T pc' Ls (v :: st))) : Go E G (Fm E T pc Ls (.int j :: .ref a :: st)) := by
  obtain ⟨C, hh, L, a1, b1, ha, hb1, hF, X⟩ := W
  subst hp
  exact g.step fun t r => X.caload C.1 (j := j) (v := v) (by rw [hh]; exact A.1) (State.isArrayOf_alike C.2.2.2.2.2.2.1.alike A.2.1) A.2.2 hj hat (g := mkF E.m pc Ls (.int j :: .ref a :: st)) rfl rfl (hb C.2.1 hd) _ r
theorem go_baload (W : On k Z n0 E T h cells slots) {a : Addr} {cl : Cell} (A : Arr Z h a cl .byte) {j : Int32} {v : Value} (hj : ¬ (j < 0 ∨ cl.slots.size ≤ j.toNatClampNeg)) (hat : cl.slots[j.toNatClampNeg]? = some v) (hd : decode k.bytes pc = .ok (.baload, 1)) (hp : pc + 1 = pc') (g : Go E G (Fm E T pc' Ls (v :: st))) : Go E G (Fm E T pc Ls (.int j :: .ref a :: st)) := by
  obtain ⟨C, hh, L, a1, b1, ha, hb1, hF, X⟩ := W
  subst hp
  exact g.step fun t r => X.baloadBytes C.1 (j := j) (v := v) (by rw [hh]; exact A.1) (State.isArrayOf_alike C.2.2.2.2.2.2.1.alike A.2.1) A.2.2 hj hat (g := mkF E.m pc Ls (.int j :: .ref a :: st)) rfl rfl (hb C.2.1 hd) _ r
theorem go_aaload (W : On k Z n0 E T h cells slots) {a : Addr} {cl : Cell} {ty : FieldType} (A : Arr Z h a cl ty) (hty : ty.isReference = true) {j : Int32} {v : Value} (hj : ¬ (j < 0 ∨ cl.slots.size ≤ j.toNatClampNeg)) (hat : cl.slots[j.toNatClampNeg]? = some v) (hd : decode k.bytes pc = .ok (.aaload, 1)) (hp : pc + 1 = pc') (g : Go E G (Fm E T pc' Ls (v :: st))) : Go E G (Fm E T pc Ls (.int j :: .ref a :: st)) := by
  obtain ⟨C, hh, L, a1, b1, ha, hb1, hF, X⟩ := W
  subst hp
  exact g.step fun t r => X.aaload C.1 (j := j) (v := v) (by rw [hh]; exact A.1) (State.isArrayOf_alike C.2.2.2.2.2.2.1.alike A.2.1) hty A.2.2 hj hat (g := mkF E.m pc Ls (.int j :: .ref a :: st)) rfl rfl (hb C.2.1 hd) _ r
/-! the end -/
def EndQ (s : State) (n0 : Nat) (Q : Option Value → Heap → Prop) (C N : Nat) : State → Outcome → Prop := fun t o => ∃ v L, o = .returned v ∧ (Q v t.heap ∧ Fr n0 L) ∧ FrameEnd s o t L C N
/-- a method's contract: from the heap h0, with these arguments, it returns, and Q holds of what it hands back and of the heap that it leaves -/
def Ct (l : Launch) (Z : State) (k : Mt) (as' : Array Value) (h0 : Heap) (n0 : Nat) (Q : Option Value → Heap → Prop) : Prop :=
  ∀ ws, MetFree l k.y (head1 (Cond.code k.y k.bytes k.maxL k.ret :: ws) k.rm) (fun a U => a = as' ∧ Z.Warmed39 U.vm ∧ U.heap = h0) (fun _ _ _ _ _ => True) (fun _ U o U' => ∃ v L, o = .returned v ∧ (Q v U'.heap ∧ Fr n0 L) ∧ FrameEnd U o U' L k.rm.cells k.rm.slots)
theorem Ct.of {l : Launch} {as' : Array Value} {h0 : Heap} {Q : Option Value → Heap → Prop} (hpl : plainFor k.y = true) (ef : ∀ m, entryFrame m as' k.maxL = mkF m 0 Ls []) (body : ∀ (E : Cx) (T : State), On k Z n0 E T h0 0 0 → Go E (EndQ E.s n0 Q k.rm.cells k.rm.slots) (Fm E T 0 Ls [])) : Ct l Z k as' h0 n0 Q := fun ws => by
  refine MetFree.of_bodySF hpl hisR ?_
  intro p e s m args below meth c s₁ Bd hml0 hP hK
  obtain ⟨rfl, hZ, hh⟩ := hP
  have X0 : Stand p l e k.rm s m args below meth c s₁ [] 0 0 := Stand.of_body Bd
  obtain ⟨s₂, o, h1, h2, h3, h4⟩ := body (p, l, e, s, m, args, below, meth, c) s₁ ⟨⟨Bd.exec, Bd.bytes, hml0, findClass_of_methodNamed Bd.named, Bd.returns, Bd.notSynchronized, hZ, (name_of_methodNamed Bd.named Bd.method).1, Bd.named⟩, by rw [← hh, Bd.state]; rfl, [], 0, 0, Nat.le_refl _, Nat.le_refl _, Fr.nil n0, X0⟩
  exact ⟨s₂, o, castTop (ef m) h1, h2, h3, h4⟩
theorem Ct.mono {l : Launch} {as' : Array Value} {h0 : Heap} {Q Q' : Option Value → Heap → Prop} (c : Ct l Z k as' h0 n0 Q) (q : ∀ v h, Q v h → Q' v h) : Ct l Z k as' h0 n0 Q' := fun ws p e ha hc hk s m args below hf happ hP hK => by
  obtain ⟨n, o, h1, h2, h3, v, L, h4, h5, h6⟩ := c ws p e ha hc hk s m args below hf happ hP hK
  exact ⟨n, o, h1, h2, h3, v, L, h4, ⟨q _ _ h5.1, h5.2⟩, h6⟩
theorem go_ret (W : On k Z n0 E T h cells slots) {Q : Option Value → Heap → Prop} {C N : Nat} {w : Value} {t : FieldType} {i : Instr} (hret : k.ret = some t) (hn : narrow t w = w)
    (hi : (i = .ireturn ∧ (t = .int ∨ t = .boolean ∨ t = .byte ∨ t = .char ∨ t = .short) ∧ ∃ z, w = .int z) ∨ (i = .lreturn ∧ t = .long ∧ ∃ z, w = .long z) ∨ (i = .dreturn ∧ t = .double ∧ ∃ z, w = .double z) ∨ (i = .freturn ∧ t = .float ∧ ∃ z, w = .float z) ∨ (i = .areturn ∧ t.isReference = true ∧ w.isRef = true))
    (hd : decode k.bytes pc = .ok (i, 1)) (hC : cells ≤ C) (hN : slots ≤ N) (hq : Q (some w) h) : Go E (EndQ E.s n0 Q C N) (Fm E T pc Ls (w :: st)) := by
  obtain ⟨⟨c1, c2, c3, c4, c5, c6, c7, c8, c9⟩, hh, L, a1, b1, ha, hb1, hF, X⟩ := W
  have hr : E.meth.sig.returnType = some t := c5.trans hret
  obtain ⟨fs, hr', hrun, hended, hW, hsame⟩ := X.leave (v := some w) (fun h => by rw [hr] at h; cases h) c6
  exact ⟨_, _, retOut X c1 hr hn hi (hb c2 hd) hr', hrun, hended, some w, L, rfl, ⟨by show Q (some w) T.heap; rw [hh]; exact hq, hF⟩, ⟨_, rfl⟩, hW, hsame.mono (Nat.le_trans ha hC) (Nat.le_trans hb1 hN)⟩
theorem go_retI (W : On k Z n0 E T h cells slots) {Q : Option Value → Heap → Prop} {C N : Nat} {w : Int32} {t : FieldType} (hret : k.ret = some t) (ht : t = .int ∨ t = .boolean ∨ t = .byte ∨ t = .char ∨ t = .short) (hn : narrow t (.int w) = .int w) (hd : decode k.bytes pc = .ok (.ireturn, 1)) (hC : cells ≤ C) (hN : slots ≤ N) (hq : Q (some (.int w)) h) : Go E (EndQ E.s n0 Q C N) (Fm E T pc Ls (.int w :: st)) :=
  go_ret W hret hn (Or.inl ⟨rfl, ht, _, rfl⟩) hd hC hN hq
theorem go_retL (W : On k Z n0 E T h cells slots) {Q : Option Value → Heap → Prop} {C N : Nat} {w : Int64} (hret : k.ret = some .long) (hd : decode k.bytes pc = .ok (.lreturn, 1)) (hC : cells ≤ C) (hN : slots ≤ N) (hq : Q (some (.long w)) h) : Go E (EndQ E.s n0 Q C N) (Fm E T pc Ls (.long w :: st)) :=
  go_ret W hret rfl (Or.inr (Or.inl ⟨rfl, rfl, _, rfl⟩)) hd hC hN hq
theorem go_retA (W : On k Z n0 E T h cells slots) {Q : Option Value → Heap → Prop} {C N : Nat} {w : Value} {t : FieldType} (hret : k.ret = some t) (ht : t.isReference = true) (hw : w.isRef = true) (hn : narrow t w = w) (hd : decode k.bytes pc = .ok (.areturn, 1)) (hC : cells ≤ C) (hN : slots ≤ N) (hq : Q (some w) h) : Go E (EndQ E.s n0 Q C N) (Fm E T pc Ls (w :: st)) :=
  go_ret W hret hn (Or.inr (Or.inr (Or.inr (Or.inr ⟨rfl, ht, hw⟩)))) hd hC hN hq
theorem go_retV (W : On k Z n0 E T h cells slots) {Q : Option Value → Heap → Prop} {C N : Nat} (hret : k.ret = none) (hd : decode k.bytes pc = .ok (.return_, 1)) (hC : cells ≤ C) (hN : slots ≤ N) (hq : Q none h) : Go E (EndQ E.s n0 Q C N) (Fm E T pc Ls []) := by
  obtain ⟨⟨c1, c2, c3, c4, c5, c6, c7, c8, c9⟩, hh, L, a1, b1, ha, hb1, hF, X⟩ := W
  have hr : E.meth.sig.returnType = none := c5.trans hret
  obtain ⟨fs, hr', hrun, hended, hW, hsame⟩ := X.leave (v := none) (fun _ => rfl) c6
  exact ⟨_, _, X.returnOut c1 hr (hb c2 hd) hr', hrun, hended, none, L, rfl, ⟨by show Q none T.heap; rw [hh]; exact hq, hF⟩, ⟨_, rfl⟩, hW, hsame.mono (Nat.le_trans ha hC) (Nat.le_trans hb1 hN)⟩
/-! calls: by the callee's contract -/
theorem Ct.back {kc : Mt} {as' : Array Value} {Q : Option Value → Heap → Prop} (c : Ct E.l Z kc as' h n0 Q) (hZ : Z.Warmed39 E.s.vm) (wc : (Cond.code kc.y kc.bytes kc.maxL kc.ret).before a0 Z = true) (wz : (Cond.initialized kc.y.cls).before a0 Z = true) {W len : Nat} (hf : kc.rm.frames + 1 ≤ k.rm.frames) (hl : W + (kc.maxL + 11) + kc.rm.locals ≤ k.rm.locals) :
    Back E.l k.rm E.p E.e E.below E.s E.args kc.y len W (fun A a => a = as' ∧ A.U.heap = h ∧ A.cells + kc.rm.cells ≤ k.rm.cells ∧ A.slots + kc.rm.slots ≤ k.rm.slots)
      (fun A _ v B => ∃ L, (Q v B.U.heap ∧ Fr n0 L) ∧ B.locs = A.locs ++ L ∧ B.cells = A.cells + kc.rm.cells ∧ B.slots = A.slots + kc.rm.slots) :=
  backOf (Q := fun v h L => Q v h ∧ Fr n0 L) (c []) hZ wc wz hf hl
theorem go_callS (W : On k Z n0 E T h cells slots) {kc : Mt} {index : Nat} {argsL rest : List Value} {ps : List FieldType} {r : Option FieldType} {Q : Option Value → Heap → Prop} (w1 : (Cond.methodLink k.y.cls index kc.y).before a0 Z = true) (w2 : (Cond.static kc.y).before a0 Z = true) (w3 : (Cond.initialized kc.y.cls).before a0 Z = true) (w4 : (Cond.code kc.y kc.bytes kc.maxL kc.ret).before a0 Z = true)
    (c : Ct E.l Z kc argsL.toArray h n0 Q) (hy : kc.y.cls ≠ "java/lang/invoke/MethodHandle" ∧ kc.y.cls ≠ "java/lang/invoke/VarHandle") (hdesc : parseMethodDescriptor kc.y.desc = some ⟨ps, r⟩) (hlen : argsL.length = ps.length) (hst : st = argsL.reverse ++ rest) (hm : Ls.size = k.maxL)
    (hf : kc.rm.frames + 1 ≤ k.rm.frames) (hl : (rest.map fun v => v.category).sum + (kc.maxL + 11) + kc.rm.locals ≤ k.rm.locals) (hcl : cells + kc.rm.cells ≤ k.rm.cells) (hsl : slots + kc.rm.slots ≤ k.rm.slots) (hd : decode k.bytes pc = .ok (.invokestatic index, 3)) (hp : pc + 3 = pc')
    (g : ∀ v T' h', Q v h' → On k Z n0 E T' h' (cells + kc.rm.cells) (slots + kc.rm.slots) → Go E G (Fm E T' pc' Ls (v.toList ++ rest))) : Go E G (Fm E T pc Ls st) := by
  obtain ⟨C, hh, L, a1, b1, ha, hb1, hF, X⟩ := W
  subst hp
  have hZ := C.2.2.2.2.2.2.1
  obtain ⟨v, _, ⟨T', L', k', n'⟩, -, X', ⟨Lc, hQ, l', y', z'⟩, st'⟩ := Jvm.LawKit.callS X C.1 (y := kc.y) C.2.2.2.1 (mvT hZ w1) (mvT hZ w2) (mvT hZ w3) (mvT hZ w4) hy (c.back (k := k) (W := (rest.map fun v => v.category).sum) hZ w4 w3 hf hl) (g := mkF E.m pc Ls st) rfl (hm.trans C.2.2.1.symm) (argsL := argsL) (rest := rest) (lenOf hdesc hlen) hst (by show 2 * 0 + _ ≤ _; omega) (hb C.2.1 hd) (fun _ _ => ⟨rfl, hh, Nat.le_trans (Nat.add_le_add_right ha _) hcl, Nat.le_trans (Nat.add_le_add_right hb1 _) hsl⟩)
  dsimp only [Pt.U, Pt.locs, Pt.cells, Pt.slots] at X' l' y' z' st' hQ
  subst l' y' z'
  exact (g v T' _ hQ.1 ⟨C, rfl, _, _, _, Nat.add_le_add_right ha _, Nat.add_le_add_right hb1 _, Fr.app hF hQ.2, X'⟩).step st'
theorem go_callN (W : On k Z n0 E T h cells slots) {kc : Mt} {index : Nat} {a : Addr} {argsL rest : List Value} {ps : List FieldType} {r : Option FieldType} {Q : Option Value → Heap → Prop} (w1 : (Cond.methodLink k.y.cls index kc.y).before a0 Z = true) (w2 : (Cond.instanceMethod kc.y).before a0 Z = true) (w3 : (Cond.initialized kc.y.cls).before a0 Z = true) (w4 : (Cond.code kc.y kc.bytes kc.maxL none).before a0 Z = true)
    (c : Ct E.l Z kc (.ref a :: argsL).toArray h n0 Q) (hi : kc.y.name = "<init>") (hrt : kc.ret = none) (hy : kc.y.cls ≠ "java/lang/invoke/MethodHandle" ∧ kc.y.cls ≠ "java/lang/invoke/VarHandle") (hdesc : parseMethodDescriptor kc.y.desc = some ⟨ps, r⟩) (hlen : argsL.length = ps.length) (hst : st = argsL.reverse ++ .ref a :: rest) (hm : Ls.size = k.maxL)
    (hf : kc.rm.frames + 1 ≤ k.rm.frames) (hl : (rest.map fun v => v.category).sum + (kc.maxL + 11) + kc.rm.locals ≤ k.rm.locals) (hcl : cells + kc.rm.cells ≤ k.rm.cells) (hsl : slots + kc.rm.slots ≤ k.rm.slots) (hd : decode k.bytes pc = .ok (.invokespecial index, 3)) (hp : pc + 3 = pc')
    (g : ∀ v T' h', Q v h' → On k Z n0 E T' h' (cells + kc.rm.cells) (slots + kc.rm.slots) → Go E G (Fm E T' pc' Ls (v.toList ++ rest))) : Go E G (Fm E T pc Ls st) := by
  obtain ⟨C, hh, L, a1, b1, ha, hb1, hF, X⟩ := W
  subst hp
  have hZ := C.2.2.2.2.2.2.1
  obtain ⟨v, _, ⟨T', L', k', n'⟩, -, X', ⟨Lc, hQ, l', y', z'⟩, st'⟩ := X.specialBack C.1 (y := kc.y) hi C.2.2.2.1 (mvT hZ w1) (mvT hZ w2) (mvT hZ w4) hy (c.back (k := k) (W := (rest.map fun v => v.category).sum) hZ (hrt ▸ w4) w3 hf hl) (g := mkF E.m pc Ls st) rfl (hm.trans C.2.2.1.symm) (Steps.refl _) (a := a) (argsL := argsL) (rest := rest) (lenOf hdesc hlen) hst (by show 2 * 0 + _ ≤ _; omega) (hb C.2.1 hd) (fun _ _ => ⟨rfl, hh, Nat.le_trans (Nat.add_le_add_right ha _) hcl, Nat.le_trans (Nat.add_le_add_right hb1 _) hsl⟩)
  dsimp only [Pt.U, Pt.locs, Pt.cells, Pt.slots] at X' l' y' z' st' hQ
  subst l' y' z'
  exact (g v T' _ hQ.1 ⟨C, rfl, _, _, _, Nat.add_le_add_right ha _, Nat.add_le_add_right hb1 _, Fr.app hF hQ.2, X'⟩).step fun t q => st'.trans q
theorem go_callV (W : On k Z n0 E T h cells slots) {kc : Mt} {y : MethodName} {K : String} {index : Nat} {a : Addr} {argsL rest : List Value} {ps : List FieldType} {r : Option FieldType} {Q : Option Value → Heap → Prop} (w1 : (Cond.methodLink k.y.cls index y).before a0 Z = true) (w2 : (Cond.declares y).before a0 Z = true) (nf : NotFace E.s y) (w3 : (Cond.selects K y kc.y).before a0 Z = true) (w4 : (Cond.instanceMethod kc.y).before a0 Z = true) (w5 : (Cond.initialized kc.y.cls).before a0 Z = true) (w6 : (Cond.code kc.y kc.bytes kc.maxL kc.ret).before a0 Z = true)
    (Ex : Exa Z h a K) (c : Ct E.l Z kc (.ref a :: argsL).toArray h n0 Q) (hy : y.cls ≠ "java/lang/invoke/MethodHandle" ∧ y.cls ≠ "java/lang/invoke/VarHandle") (hdesc : parseMethodDescriptor y.desc = some ⟨ps, r⟩) (hlen : argsL.length = ps.length) (hst : st = argsL.reverse ++ .ref a :: rest) (hm : Ls.size = k.maxL)
    (hf : kc.rm.frames + 1 ≤ k.rm.frames) (hl : (rest.map fun v => v.category).sum + (kc.maxL + 11) + kc.rm.locals ≤ k.rm.locals) (hcl : cells + kc.rm.cells ≤ k.rm.cells) (hsl : slots + kc.rm.slots ≤ k.rm.slots) (hd : decode k.bytes pc = .ok (.invokevirtual index, 3)) (hp : pc + 3 = pc')
    (g : ∀ v T' h', Q v h' → On k Z n0 E T' h' (cells + kc.rm.cells) (slots + kc.rm.slots) → Go E G (Fm E T' pc' Ls (v.toList ++ rest))) : Go E G (Fm E T pc Ls st) := by
  obtain ⟨C, hh, L, a1, b1, ha, hb1, hF, X⟩ := W
  subst hp
  have hZ := C.2.2.2.2.2.2.1
  obtain ⟨cq, kq, qa, qb, qc⟩ := isOf (T := T) hZ hh Ex
  obtain ⟨v, _, ⟨T', L', k', n'⟩, -, X', ⟨Lc, hQ, l', y', z'⟩, st'⟩ := X.virtualBack C.1 (y := y) (z := kc.y) C.2.2.2.1 (mvT hZ w1) (mvT hZ w2) nf (mvT hZ w3) (mvT hZ w4) hy (c.back (k := k) (W := (rest.map fun v => v.category).sum) hZ w6 w5 hf hl) qa qc (g := mkF E.m pc Ls st) rfl (hm.trans C.2.2.1.symm) (Steps.refl _) (argsL := argsL) (rest := rest) (lenOf hdesc hlen) hst (by show 2 * 0 + _ ≤ _; omega) (hb C.2.1 hd) (fun _ _ => ⟨rfl, hh, Nat.le_trans (Nat.add_le_add_right ha _) hcl, Nat.le_trans (Nat.add_le_add_right hb1 _) hsl⟩)
  dsimp only [Pt.U, Pt.locs, Pt.cells, Pt.slots] at X' l' y' z' st' hQ
  subst l' y' z'
  exact (g v T' _ hQ.1 ⟨C, rfl, _, _, _, Nat.add_le_add_right ha _, Nat.add_le_add_right hb1 _, Fr.app hF hQ.2, X'⟩).step fun t q => st'.trans q
theorem nf_sel (W : On k Z n0 E T h cells slots) {y : MethodName} (w : (Cond.selects y.cls y y).before a0 Z = true) : NotFace E.s y := notFace_of_selects (args := #[]) (mvT W.hZ w)
theorem nf_sup (W : On k Z n0 E T h cells slots) {y : MethodName} {S : String} (w : (Cond.superclass y.cls S).before a0 Z = true) : NotFace E.s y := nf_super (args := #[]) (mvT W.hZ w)

theorem go_instNo (W : On k Z n0 E T h cells slots) {K C : String} {index : Nat} (w : (Cond.classLink k.y.cls index K).before a0 Z = true) {a : Addr} (Ex : Exa Z h a C) (F : ∃ c t, Z.vm.findClass C = some c ∧ Z.vm.findClass K = some t ∧ Z.vm.assignable c t = false) (hd : decode k.bytes pc = .ok (.instanceof index, 3)) (hp : pc + 3 = pc') (g : ∀ T', On k Z n0 E T' h cells slots → Go E G (Fm E T' pc' Ls (.int 0 :: st))) : Go E G (Fm E T pc Ls (.ref a :: st)) := by
  obtain ⟨C, hh, L, a1, b1, ha, hb1, hF, X⟩ := W
  subst hp
  obtain ⟨T', X', e', st'⟩ := instNo X C.1 C.2.2.2.2.2.2.1 C.2.2.2.1 w hh Ex F (g := mkF E.m pc Ls (.ref a :: st)) rfl rfl (hb C.2.1 hd)
  exact (g T' ⟨C, e', L, a1, b1, ha, hb1, hF, X'⟩).step st'
theorem go_instNull (W : On k Z n0 E T h cells slots) {index : Nat} (hd : decode k.bytes pc = .ok (.instanceof index, 3)) (hp : pc + 3 = pc') (g : Go E G (Fm E T pc' Ls (.int 0 :: st))) : Go E G (Fm E T pc Ls (.null :: st)) := by
  obtain ⟨C, hh, L, a1, b1, ha, hb1, hF, X⟩ := W
  subst hp
  exact g.step (X.instanceofNull C.1 (g := mkF E.m pc Ls (.null :: st)) rfl rfl (hb C.2.1 hd))
theorem go_castNull (W : On k Z n0 E T h cells slots) {index : Nat} (hd : decode k.bytes pc = .ok (.checkcast index, 3)) (hp : pc + 3 = pc') (g : Go E G (Fm E T pc' Ls (.null :: st))) : Go E G (Fm E T pc Ls (.null :: st)) := by
  obtain ⟨C, hh, L, a1, b1, ha, hb1, hF, X⟩ := W
  subst hp
  exact g.step (X.checkcastNull C.1 (g := mkF E.m pc Ls (.null :: st)) rfl rfl (hb C.2.1 hd))
theorem go_putFN (W : On k Z n0 E T h cells slots) {R0 O n d K : String} {index kk : Nat} {ty : FieldType} (w : (Cond.fieldLink k.y.cls index R0 n d).before a0 Z = true) (via : Via Z R0 O n d) {a : Addr} {v v' old : Value} (F : Fld Z h a O n d old) (Ex : Exa Z h a K)
    (L : (Cond.lays K O n d).before a0 Z = true ∨ ((Cond.laysFinal K O n d).before a0 Z = true ∧ k.y.cls = O ∧ k.y.name = "<init>")) (wi : (Cond.instantiable K kk).before a0 Z = true) (hty : parseFieldDescriptor d = some ty) (hn : narrow ty v = v') (hf : fits ty v' = true) (hn0 : n0 ≤ a)
    (hd : decode k.bytes pc = .ok (.putfield index, 3)) (hp : pc + 3 = pc') (g : ∀ T' h', On k Z n0 E T' h' cells slots → Wr h h' a (Jvm.RoadKit.slotOf Z O n d) v' → Go E G (Fm E T' pc' Ls st)) : Go E G (Fm E T pc Ls (v :: .ref a :: st)) := by
  obtain ⟨C, hh, Lc, a1, b1, ha, hb1, hF, X⟩ := W
  subst hp
  obtain ⟨T', h', X', e', W', st'⟩ := putFN X C.1 C.2.2.2.2.2.2.1 C.2.2.2.1 w via hh F Ex (L.imp id fun q => ⟨q.1, q.2.1, C.2.2.2.2.2.2.2.1.trans q.2.2⟩) wi hty hn hf (g := mkF E.m pc Ls (v :: .ref a :: st)) rfl rfl (hb C.2.1 hd)
  exact (g T' h' ⟨C, e', _, a1, b1, ha, hb1, Fr.snoc X' hF hn0, X'⟩ W').step st'
theorem go_newR (W : On k Z n0 E T h cells slots) {K : String} {index : Nat} (w1 : (Cond.classLink k.y.cls index K).before a0 Z = true) (w2 : (Cond.arrayOver (.object K)).before a0 Z = true) {n : Int32} (hd : decode k.bytes pc = .ok (.anewarray index, 3)) (hn : ¬ n < 0) (cap : Nat) (hcap : n.toNatClampNeg ≤ cap) (hb8 : cap * 8 ≤ 536870912) (hc : cells + 1 ≤ k.rm.cells) (hl : slots + cap ≤ k.rm.slots) (hp : pc + 3 = pc')
    (g : ∀ T' h' cA a, a = h.size → On k Z n0 E T' h' (cells + 1) (slots + cap) → Ext h h' → Arr Z h' a (newA cA (.object K) n) (.object K) → Ovr Z cA K → Go E G (Fm E T' pc' Ls (.ref a :: st))) : Go E G (Fm E T pc Ls (.int n :: st)) := by
  obtain ⟨C, hh, L, a1, b1, ha, hb1, hF, X⟩ := W
  subst hp
  obtain ⟨T', h', cA, X', e', E', A', O', st'⟩ := newR X C.1 C.2.2.2.2.2.2.1 C.2.2.2.1 w1 w2 hh (g := mkF E.m pc Ls (.int n :: st)) rfl (hb C.2.1 hd) rfl hn hcap hb8 (Nat.le_trans (Nat.add_le_add_right ha 1) hc) (Nat.le_trans (Nat.add_le_add_right hb1 cap) hl)
  exact (g T' h' cA _ rfl ⟨C, e', L, _, _, Nat.add_le_add_right ha 1, Nat.add_le_add_right hb1 cap, hF, X'⟩ E' A' O').step st'
theorem go_stR (W : On k Z n0 E T h cells slots) {a : Addr} {cl : Cell} {ty : FieldType} (A : Arr Z h a cl ty) {j : Int32} {v : Value} (hj : ¬ (j < 0 ∨ cl.slots.size ≤ j.toNatClampNeg)) (hty : ty.isReference = true) (F : Sto Z h a v) (hn0 : n0 ≤ a) (hd : decode k.bytes pc = .ok (.aastore, 1)) (hp : pc + 1 = pc') (g : ∀ T' h', On k Z n0 E T' h' cells slots → Wr h h' a j.toNatClampNeg v → Go E G (Fm E T' pc' Ls st)) : Go E G (Fm E T pc Ls (v :: .int j :: .ref a :: st)) := by
  obtain ⟨C, hh, L, a1, b1, ha, hb1, hF, X⟩ := W
  subst hp
  obtain ⟨T', h', X', e', W', st'⟩ := stR X C.1 C.2.2.2.2.2.2.1 hh A hj hty F (g := mkF E.m pc Ls (v :: .int j :: .ref a :: st)) rfl rfl (hb C.2.1 hd)
  exact (g T' h' ⟨C, e', _, a1, b1, ha, hb1, Fr.snoc X' hF hn0, X'⟩ W').step st'
theorem go_newPE (W : On k Z n0 E T h cells slots) {aty : ArrayType} (w : (Cond.arrayClass (newarray.typeOf aty)).before a0 Z = true) {n : Int32} (hd : decode k.bytes pc = .ok (.newarray aty, 2)) (hn : ¬ n < 0) (cap : Nat) (hcap : n.toNatClampNeg ≤ cap) (hb8 : cap * 8 ≤ 536870912) (hc : cells + 1 ≤ k.rm.cells) (hl : slots + cap ≤ k.rm.slots) {ad : String} (had : "[" ++ (newarray.typeOf aty).toString = ad) (hp : pc + 2 = pc')
    (g : ∀ T' h' cA a, a = h.size → On k Z n0 E T' h' (cells + 1) (slots + cap) → Ext h h' → Arr Z h' a (newA cA (newarray.typeOf aty) n) (newarray.typeOf aty) → Exa Z h' a ad → Go E G (Fm E T' pc' Ls (.ref a :: st))) : Go E G (Fm E T pc Ls (.int n :: st)) := by
  obtain ⟨C, hh, L, a1, b1, ha, hb1, hF, X⟩ := W
  subst hp
  obtain ⟨T', h', cA, X', e', E', A', Q', st'⟩ := newPE X C.1 C.2.2.2.2.2.2.1 w hh (g := mkF E.m pc Ls (.int n :: st)) rfl (hb C.2.1 hd) rfl hn hcap hb8 (Nat.le_trans (Nat.add_le_add_right ha 1) hc) (Nat.le_trans (Nat.add_le_add_right hb1 cap) hl) had
  exact (g T' h' cA _ rfl ⟨C, e', L, _, _, Nat.add_le_add_right ha 1, Nat.add_le_add_right hb1 cap, hF, X'⟩ E' A' Q').step st'
theorem go_cloneA (W : On k Z n0 E T h cells slots) {ad : String} {index : Nat} (w1 : (Cond.methodLink k.y.cls index ⟨ad, "clone", "()Ljava/lang/Object;"⟩).before a0 Z = true) (w2 : (Cond.sameMethod ad "java/lang/Object" "clone" "()Ljava/lang/Object;").before a0 Z = true) (w3 : (Cond.native ⟨"java/lang/Object", "clone", "()Ljava/lang/Object;"⟩).before a0 Z = true)
    (w4 : (Cond.instanceMethod ⟨"java/lang/Object", "clone", "()Ljava/lang/Object;"⟩).before a0 Z = true) (w5 : (Cond.selects ad ⟨ad, "clone", "()Ljava/lang/Object;"⟩ ⟨"java/lang/Object", "clone", "()Ljava/lang/Object;"⟩).before a0 Z = true) (w6 : (Cond.castable ad "java/lang/Cloneable").before a0 Z = true)
    {a : Addr} {cl : Cell} {ty : FieldType} (A : Arr Z h a cl ty) (Ex : Exa Z h a ad) (F : FitC Z cl) (hd : decode k.bytes pc = .ok (.invokevirtual index, 3)) (hm : Ls.size = k.maxL) (hf : 1 ≤ k.rm.frames) (hl : (st.map fun v => v.category).sum + 14 ≤ k.rm.locals) (cap : Nat) (hcap : cl.slots.size ≤ cap) (hc : cells + 1 ≤ k.rm.cells) (hsl : slots + cap ≤ k.rm.slots) (hp : pc + 3 = pc')
    (g : ∀ T' h' b, b = h.size → On k Z n0 E T' h' (cells + 1) (slots + cap) → Ext h h' → Arr Z h' b (cloneOf cl) ty → Exa Z h' b ad → Go E G (Fm E T' pc' Ls (.ref b :: st))) : Go E G (Fm E T pc Ls (.ref a :: st)) := by
  obtain ⟨C, hh, L, a1, b1, ha, hb1, hF, X⟩ := W
  subst hp
  obtain ⟨T', h', X', e', E', A', Q', st'⟩ := cloneA X C.1 C.2.2.2.2.2.2.1 C.2.2.2.1 w1 w2 w3 w4 w5 w6 hh A Ex F (g := mkF E.m pc Ls (.ref a :: st)) rfl (hm.trans C.2.2.1.symm) rfl (hb C.2.1 hd) hf (W := (st.map fun v => v.category).sum) (by show 2 * 0 + _ ≤ _; omega) hl hcap (Nat.le_trans (Nat.add_le_add_right ha 1) hc) (Nat.le_trans (Nat.add_le_add_right hb1 cap) hsl)
  exact (g T' h' _ rfl ⟨C, e', L, _, _, Nat.add_le_add_right ha 1, Nat.add_le_add_right hb1 cap, hF, X'⟩ E' A' Q').step st'
theorem go_lamConst (W : On k Z n0 E T h cells slots) {index : Nat} {sh : Lambda.Shape} (w : (Cond.lambdaSite k.y pc index sh).before a0 Z = true) (hcap : sh.captured = []) (hd : decode k.bytes pc = .ok (.invokedynamic index, 5)) (hm : Ls.size = k.maxL) (hl : (st.map fun v => v.category).sum + 3072 ≤ k.rm.locals) (hp : pc + 5 = pc') (g : ∀ a : Addr, Go E G (Fm E T pc' Ls (.ref a :: st))) : Go E G (Fm E T pc Ls st) := by
  obtain ⟨C, hh, L, a1, b1, ha, hb1, hF, X⟩ := W
  subst hp
  have hZ := C.2.2.2.2.2.2.1
  obtain ⟨cK, one, hat⟩ := Cond.lambdaSite_spec w
  obtain ⟨mD, kD, cfD, i0, p0, lk, hmD, hkD, -, -, -, hfind, -, -, hl'⟩ := State.lambdaAt?_spec hat
  have hn : Z.methodNamed? k.y = some E.m := by
    have q : (Z.setVm E.s.vm).methodNamed? k.y = some E.m := C.2.2.2.2.2.2.2.2
    rw [State.methodNamed?_setVm hZ.alike] at q; exact q
  cases hn.symm.trans hmD
  obtain ⟨k', q1, q2⟩ := hZ.alike.2.2 _ _ hkD
  rcases hl' with ⟨a, cell, rfl, -⟩ | ⟨-, -, hne⟩
  · have hw : E.e.platform.lambdaLinkWords = 3072 := by rw [X.admits.platform]
    exact (g a).step fun t r => X.lambdaConstant C.1 (g := mkF E.m pc Ls st) rfl (hm.trans C.2.2.1.symm) (hb C.2.1 hd) q1 (by rw [q2]; exact hfind) (by rw [hw]; show 2 * 0 + (st.map fun v => v.category).sum + 3072 ≤ _; omega) r
  · exact absurd hcap hne
theorem go_lsw (W : On k Z n0 E T h cells slots) {dflt : Int} {prs : Array (Int × Int)} {len : Nat} {i : Int32} (hd : decode k.bytes pc = .ok (.lookupswitch dflt prs, len)) (hsrt : ∀ a b a_1 b_1 : Int, ((a, b), a_1, b_1) ∈ prs.toList.zip prs.toList.tail → a < a_1) (ho : 0 ≤ (pc : Int) + lookupswitch.offset prs.toList dflt i.toInt) (hp : ((pc : Int) + lookupswitch.offset prs.toList dflt i.toInt).toNat = pc') (g : Go E G (Fm E T pc' Ls st)) : Go E G (Fm E T pc Ls (.int i :: st)) := by
  subst hp
  refine g.step fun t r => ?_
  have q := W.here; have hx := W.exec; have hd' := hb W.bytes hd
  show Steps E.p.tables E.e E.below (T.setTop { method := E.m, pc := pc, locals := Ls, stack := .int i :: st, locked := none }) t
  jvm_step q [q.top, hx, hd', ho, lookupswitch.wp_chain]
  exact ⟨hsrt, r⟩
theorem Sta.kept {h' : Heap} {C n d : String} {v : Value} (S : Sta Z h C n d v) (K : Keep h h' []) : Sta Z h' C n d v := by
  obtain ⟨cf, i, k, f, st, cell, h1, h2, h3, h4, h5, r⟩ := S; exact ⟨cf, i, k, f, st, cell, h1, h2, h3, h4, K.2.1 _ _ h5 nin0, r⟩
theorem Arr.kept {h' : Heap} {a : Addr} {c : Cell} {ty : FieldType} (A : Arr Z h a c ty) (K : Keep h h' []) : Arr Z h' a c ty := ⟨K.2.1 _ _ A.1 nin0, A.2⟩
theorem Keep.ext0 {h' : Heap} {ws : List Addr} (K : Keep h h' ws) (q : ∀ x ∈ ws, h.size ≤ x) : Ext h h' := ⟨K.1, fun a c e => K.2.1 a c e fun y => absurd (Array.getElem?_eq_some_iff.mp e).1 (Nat.not_lt.mpr (q a y))⟩
theorem Keep.nil {h' : Heap} {ws : List Addr} (K : Keep h h' ws) (q : ∀ x ∈ ws, h.size ≤ x) : Keep h h' [] := ⟨K.1, fun a c e _ => (Keep.ext0 K q).2 a c e, K.2.2⟩
/-! an array by a function -/
def Af (Z : State) (h : Heap) (a : Addr) (ty : FieldType) (n : Nat) (f : Nat → Value) : Prop := ∃ c : Cell, Arr Z h a c ty ∧ c.slots.size = n ∧ ∀ i, i < n → c.slots[i]? = some (f i)
theorem Af.lt {a : Addr} {ty : FieldType} {n : Nat} {f : Nat → Value} (F : Af Z h a ty n f) : a < h.size := by obtain ⟨c, A, -⟩ := F; exact A.lt
theorem Af.ext {h' : Heap} {a : Addr} {ty : FieldType} {n : Nat} {f : Nat → Value} (F : Af Z h a ty n f) (X : Ext h h') : Af Z h' a ty n f := by obtain ⟨c, A, r⟩ := F; exact ⟨c, A.ext X, r⟩
theorem Af.other {h' : Heap} {a b : Addr} {sl : Nat} {v : Value} {ty : FieldType} {n : Nat} {f : Nat → Value} (F : Af Z h b ty n f) (W : Wr h h' a sl v) (q : b ≠ a) : Af Z h' b ty n f := by obtain ⟨c, A, r⟩ := F; exact ⟨c, A.other W q, r⟩
theorem Af.keep {h' : Heap} {a : Addr} {ws : List Addr} {ty : FieldType} {n : Nat} {f : Nat → Value} (F : Af Z h a ty n f) (K : Keep h h' ws) (q : a ∉ ws) : Af Z h' a ty n f := by obtain ⟨c, A, r⟩ := F; exact ⟨c, ⟨K.2.1 a c A.1 q, A.2⟩, r⟩
theorem Af.congr {a : Addr} {ty : FieldType} {n : Nat} {f f' : Nat → Value} (F : Af Z h a ty n f) (q : ∀ i, i < n → f i = f' i) : Af Z h a ty n f' := by obtain ⟨c, A, r1, r2⟩ := F; exact ⟨c, A, r1, fun i hi => by rw [r2 i hi, q i hi]⟩
theorem Af.new {a : Addr} {ty : FieldType} {cA : ClassId} {z : Int32} {n : Nat} (A : Arr Z h a (newA cA ty z) ty) (q : z.toNatClampNeg = n) : Af Z h a ty n (fun _ => defaultValue ty) := ⟨_, A, by rw [sz_new]; exact q, fun i hi => by subst q; simp [newA, hi]⟩
theorem Af.set {h' : Heap} {a : Addr} {v : Value} {ty : FieldType} {n : Nat} {f : Nat → Value} {i : Nat} (F : Af Z h a ty n f) (W : Wr h h' a i v) (hi : i < n) : Af Z h' a ty n (fun j => if j = i then v else f j) := by
  obtain ⟨c, A, r1, r2⟩ := F
  refine ⟨_, A.same W, by rw [sz_set]; exact r1, fun j hj => ?_⟩
  by_cases e : j = i
  · subst e; simp [Cell.setSlot, r1, hi]
  · show _ = some (if j = i then v else f j)
    rw [if_neg e, ← r2 j hj]; exact Array.getElem?_setIfInBounds_ne (Ne.symm e)
theorem Af.at {a : Addr} {ty : FieldType} {n : Nat} {f : Nat → Value} {j : Int32} {i : Nat} (F : Af Z h a ty n f) (hj : j.toInt = (i : Int)) (hi : i < n) : j.toNatClampNeg = i ∧ ∃ c : Cell, Arr Z h a c ty ∧ ¬ (j < 0 ∨ c.slots.size ≤ j.toNatClampNeg) ∧ c.slots[j.toNatClampNeg]? = some (f i) := by
  obtain ⟨c, A, r1, r2⟩ := F
  have e : j.toNatClampNeg = i := by simp only [Int32.toNatClampNeg]; omega
  refine ⟨e, c, A, ?_, by rw [e]; exact r2 i hi⟩
  rw [e, r1, Int32.lt_iff_toInt_lt, hj]
  simp only [Int32.reduceToInt]; omega
theorem Af.len {a : Addr} {ty : FieldType} {n : Nat} {f : Nat → Value} (F : Af Z h a ty n f) : ∃ c : Cell, Arr Z h a c ty ∧ c.slots.size = n := by obtain ⟨c, A, r1, -⟩ := F; exact ⟨c, A, r1⟩
theorem Af.fitC {a : Addr} {ty : FieldType} {n : Nat} {f : Nat → Value} (F : Af Z h a ty n f) (q : ∀ i, i < n → fits ty (f i) = true) : ∃ c : Cell, Arr Z h a c ty ∧ c.slots.size = n ∧ FitC Z c ∧ ∀ i, i < n → c.slots[i]? = some (f i) := by
  obtain ⟨c, A, r1, r2⟩ := F
  refine ⟨c, A, r1, fitC_of A fun i hi v hv => ?_, r2⟩
  rw [r1] at hi
  rw [r2 i hi] at hv
  cases hv; exact q i hi
theorem go_cloneF (W : On k Z n0 E T h cells slots) {ad : String} {index : Nat} (w1 : (Cond.methodLink k.y.cls index ⟨ad, "clone", "()Ljava/lang/Object;"⟩).before a0 Z = true) (w2 : (Cond.sameMethod ad "java/lang/Object" "clone" "()Ljava/lang/Object;").before a0 Z = true) (w3 : (Cond.native ⟨"java/lang/Object", "clone", "()Ljava/lang/Object;"⟩).before a0 Z = true)
    (w4 : (Cond.instanceMethod ⟨"java/lang/Object", "clone", "()Ljava/lang/Object;"⟩).before a0 Z = true) (w5 : (Cond.selects ad ⟨ad, "clone", "()Ljava/lang/Object;"⟩ ⟨"java/lang/Object", "clone", "()Ljava/lang/Object;"⟩).before a0 Z = true) (w6 : (Cond.castable ad "java/lang/Cloneable").before a0 Z = true)
    {a : Addr} {ty : FieldType} {n : Nat} {f : Nat → Value} (F : Af Z h a ty n f) (hfit : ∀ i, i < n → fits ty (f i) = true) (Ex : Exa Z h a ad) (hd : decode k.bytes pc = .ok (.invokevirtual index, 3)) (hm : Ls.size = k.maxL) (hf : 1 ≤ k.rm.frames) (hl : (st.map fun v => v.category).sum + 14 ≤ k.rm.locals) (hc : cells + 1 ≤ k.rm.cells) (hsl : slots + n ≤ k.rm.slots) (hp : pc + 3 = pc')
    (g : ∀ T' h' b, b = h.size → On k Z n0 E T' h' (cells + 1) (slots + n) → Ext h h' → Af Z h' b ty n f → Exa Z h' b ad → Go E G (Fm E T' pc' Ls (.ref b :: st))) : Go E G (Fm E T pc Ls (.ref a :: st)) := by
  obtain ⟨c, A, r1, FC, r2⟩ := F.fitC hfit
  exact go_cloneA W w1 w2 w3 w4 w5 w6 A Ex FC hd hm hf hl n (Nat.le_of_eq r1) hc hsl hp fun T' h' b e W' E' A' Q' => g T' h' b e W' E' ⟨_, A', r1, r2⟩ Q'
theorem go_lenF (W : On k Z n0 E T h cells slots) {a : Addr} {ty : FieldType} {n : Nat} {f : Nat → Value} {z : Int32} (F : Af Z h a ty n f) (hz : n.toInt32 = z) (hd : decode k.bytes pc = .ok (.arraylength, 1)) (hp : pc + 1 = pc') (g : Go E G (Fm E T pc' Ls (.int z :: st))) : Go E G (Fm E T pc Ls (.ref a :: st)) := by
  obtain ⟨c, A, r⟩ := F.len
  exact go_arraylength W A (by rw [r]; exact hz) hd hp g
theorem go_stIF (W : On k Z n0 E T h cells slots) {a : Addr} {n : Nat} {f : Nat → Value} {j : Int32} {i : Nat} {x : Int32} (F : Af Z h a .int n f) (hj : j.toInt = (i : Int)) (hi : i < n) (hn0 : n0 ≤ a) (hd : decode k.bytes pc = .ok (.iastore, 1)) (hp : pc + 1 = pc') (g : ∀ T' h', On k Z n0 E T' h' cells slots → Wr h h' a i (.int x) → Af Z h' a .int n (fun j => if j = i then (.int x) else f j) → Go E G (Fm E T' pc' Ls st)) : Go E G (Fm E T pc Ls (.int x :: .int j :: .ref a :: st)) := by
  obtain ⟨e, c, A, q, -⟩ := F.at hj hi
  exact go_stI W A q hn0 hd hp fun T' h' W' R => g T' h' W' (e ▸ R) (F.set (e ▸ R) hi)
theorem go_stJF (W : On k Z n0 E T h cells slots) {a : Addr} {n : Nat} {f : Nat → Value} {j : Int32} {i : Nat} {x : Int64} (F : Af Z h a .long n f) (hj : j.toInt = (i : Int)) (hi : i < n) (hn0 : n0 ≤ a) (hd : decode k.bytes pc = .ok (.lastore, 1)) (hp : pc + 1 = pc') (g : ∀ T' h', On k Z n0 E T' h' cells slots → Wr h h' a i (.long x) → Af Z h' a .long n (fun j => if j = i then (.long x) else f j) → Go E G (Fm E T' pc' Ls st)) : Go E G (Fm E T pc Ls (.long x :: .int j :: .ref a :: st)) := by
  obtain ⟨e, c, A, q, -⟩ := F.at hj hi
  exact go_stJ W A q hn0 hd hp fun T' h' W' R => g T' h' W' (e ▸ R) (F.set (e ▸ R) hi)
theorem go_stCF (W : On k Z n0 E T h cells slots) {a : Addr} {n : Nat} {f : Nat → Value} {j : Int32} {i : Nat} {x : Int32} (F : Af Z h a .char n f) (hj : j.toInt = (i : Int)) (hi : i < n) (hn0 : n0 ≤ a) (hd : decode k.bytes pc = .ok (.castore, 1)) (hp : pc + 1 = pc') (g : ∀ T' h', On k Z n0 E T' h' cells slots → Wr h h' a i (.int (nar .char x)) → Af Z h' a .char n (fun j => if j = i then (.int (nar .char x)) else f j) → Go E G (Fm E T' pc' Ls st)) : Go E G (Fm E T pc Ls (.int x :: .int j :: .ref a :: st)) := by
  obtain ⟨e, c, A, q, -⟩ := F.at hj hi
  exact go_stC W A q hn0 hd hp fun T' h' W' R => g T' h' W' (e ▸ R) (F.set (e ▸ R) hi)
theorem go_stBF (W : On k Z n0 E T h cells slots) {a : Addr} {n : Nat} {f : Nat → Value} {j : Int32} {i : Nat} {x : Int32} (F : Af Z h a .byte n f) (hj : j.toInt = (i : Int)) (hi : i < n) (hn0 : n0 ≤ a) (hd : decode k.bytes pc = .ok (.bastore, 1)) (hp : pc + 1 = pc') (g : ∀ T' h', On k Z n0 E T' h' cells slots → Wr h h' a i (.int (nar .byte x)) → Af Z h' a .byte n (fun j => if j = i then (.int (nar .byte x)) else f j) → Go E G (Fm E T' pc' Ls st)) : Go E G (Fm E T pc Ls (.int x :: .int j :: .ref a :: st)) := by
  obtain ⟨e, c, A, q, -⟩ := F.at hj hi
  exact go_stB W A q hn0 hd hp fun T' h' W' R => g T' h' W' (e ▸ R) (F.set (e ▸ R) hi)
theorem go_stZF (W : On k Z n0 E T h cells slots) {a : Addr} {n : Nat} {f : Nat → Value} {j : Int32} {i : Nat} {x : Int32} (F : Af Z h a .boolean n f) (hj : j.toInt = (i : Int)) (hi : i < n) (hn0 : n0 ≤ a) (hd : decode k.bytes pc = .ok (.bastore, 1)) (hp : pc + 1 = pc') (g : ∀ T' h', On k Z n0 E T' h' cells slots → Wr h h' a i (.int (nar .boolean x)) → Af Z h' a .boolean n (fun j => if j = i then (.int (nar .boolean x)) else f j) → Go E G (Fm E T' pc' Ls st)) : Go E G (Fm E T pc Ls (.int x :: .int j :: .ref a :: st)) := by
  obtain ⟨e, c, A, q, -⟩ := F.at hj hi
  exact go_stZ W A q hn0 hd hp fun T' h' W' R => g T' h' W' (e ▸ R) (F.set (e ▸ R) hi)
theorem go_ialoadF (W : On k Z n0 E T h cells slots) {a : Addr} {n : Nat} {f : Nat → Value} {j : Int32} {i : Nat} {v : Value} (F : Af Z h a .int n f) (hj : j.toInt = (i : Int)) (hi : i < n) (hv : f i = v) (hd : decode k.bytes pc = .ok (.iaload, 1)) (hp : pc + 1 = pc') (g : Go E G (Fm E T pc' Ls (v :: st))) : Go E G (Fm E T pc Ls (.int j :: .ref a :: st)) := by
  obtain ⟨e, c, A, q, r⟩ := F.at hj hi
  exact go_iaload W A q (hv ▸ r) hd hp g
theorem go_laloadF (W : On k Z n0 E T h cells slots) {a : Addr} {n : Nat} {f : Nat → Value} {j : Int32} {i : Nat} {v : Value} (F : Af Z h a .long n f) (hj : j.toInt = (i : Int)) (hi : i < n) (hv : f i = v) (hd : decode k.bytes pc = .ok (.laload, 1)) (hp : pc + 1 = pc') (g : Go E G (Fm E T pc' Ls (v :: st))) : Go E G (Fm E T pc Ls (.int j :: .ref a :: st)) := by
  obtain ⟨e, c, A, q, r⟩ := F.at hj hi
  exact go_laload W A q (hv ▸ r) hd hp g
theorem go_caloadF (W : On k Z n0 E T h cells slots) {a : Addr} {n : Nat} {f : Nat → Value} {j : Int32} {i : Nat} {v : Value} (F : Af Z h a .char n f) (hj : j.toInt = (i : Int)) (hi : i < n) (hv : f i = v) (hd : decode k.bytes pc = .ok (.caload, 1)) (hp : pc + 1 = pc') (g : Go E G (Fm E T pc' Ls (v :: st))) : Go E G (Fm E T pc Ls (.int j :: .ref a :: st)) := by
  obtain ⟨e, c, A, q, r⟩ := F.at hj hi
  exact go_caload W A q (hv ▸ r) hd hp g
theorem go_baloadF (W : On k Z n0 E T h cells slots) {a : Addr} {n : Nat} {f : Nat → Value} {j : Int32} {i : Nat} {v : Value} (F : Af Z h a .byte n f) (hj : j.toInt = (i : Int)) (hi : i < n) (hv : f i = v) (hd : decode k.bytes pc = .ok (.baload, 1)) (hp : pc + 1 = pc') (g : Go E G (Fm E T pc' Ls (v :: st))) : Go E G (Fm E T pc Ls (.int j :: .ref a :: st)) := by
  obtain ⟨e, c, A, q, r⟩ := F.at hj hi
  exact go_baload W A q (hv ▸ r) hd hp g
theorem go_callU (W : On k Z n0 E T h cells slots) {kc : Mt} {y : MethodName} {K owner : String} {index : Nat} {a : Addr} {argsL rest : List Value} {ps : List FieldType} {r : Option FieldType} {Q : Option Value → Heap → Prop} (w1 : (Cond.methodLink k.y.cls index y).before a0 Z = true) (w2 : (Cond.sameMethod y.cls owner y.name y.desc).before a0 Z = true) (w2' : (Cond.declares ⟨owner, y.name, y.desc⟩).before a0 Z = true) (w3 : (Cond.selects K y kc.y).before a0 Z = true) (w4 : (Cond.instanceMethod kc.y).before a0 Z = true) (w5 : (Cond.initialized kc.y.cls).before a0 Z = true) (w6 : (Cond.code kc.y kc.bytes kc.maxL kc.ret).before a0 Z = true)
    (Ex : Exa Z h a K) (c : Ct E.l Z kc (.ref a :: argsL).toArray h n0 Q) (hy : owner ≠ "java/lang/invoke/MethodHandle" ∧ owner ≠ "java/lang/invoke/VarHandle") (hdesc : parseMethodDescriptor y.desc = some ⟨ps, r⟩) (hlen : argsL.length = ps.length) (hst : st = argsL.reverse ++ .ref a :: rest) (hm : Ls.size = k.maxL)
    (hf : kc.rm.frames + 1 ≤ k.rm.frames) (hl : (rest.map fun v => v.category).sum + (kc.maxL + 11) + kc.rm.locals ≤ k.rm.locals) (hcl : cells + kc.rm.cells ≤ k.rm.cells) (hsl : slots + kc.rm.slots ≤ k.rm.slots) (hd : decode k.bytes pc = .ok (.invokevirtual index, 3)) (hp : pc + 3 = pc')
    (g : ∀ v T' h', Q v h' → On k Z n0 E T' h' (cells + kc.rm.cells) (slots + kc.rm.slots) → Go E G (Fm E T' pc' Ls (v.toList ++ rest))) : Go E G (Fm E T pc Ls st) := by
  obtain ⟨C, hh, L, a1, b1, ha, hb1, hF, X⟩ := W
  subst hp
  have hZ := C.2.2.2.2.2.2.1
  obtain ⟨cq, kq, qa, qb, qc⟩ := isOf (T := T) hZ hh Ex
  obtain ⟨v, _, ⟨T', L', k', n'⟩, -, X', ⟨Lc, hQ, l', y', z'⟩, st'⟩ := X.virtualBackUp C.1 (x := y) (y := kc.y) C.2.2.2.1 (mvT hZ w1) (mvT hZ w2) (mvT hZ w2') hy (mvT hZ w3) (mvT hZ w4) (c.back (k := k) (W := (rest.map fun v => v.category).sum) hZ w6 w5 hf hl) qa qc (g := mkF E.m pc Ls st) rfl (hm.trans C.2.2.1.symm) (Steps.refl _) (argsL := argsL) (rest := rest) (lenOf hdesc hlen) hst (by show 2 * 0 + _ ≤ _; omega) (hb C.2.1 hd) (fun _ _ => ⟨rfl, hh, Nat.le_trans (Nat.add_le_add_right ha _) hcl, Nat.le_trans (Nat.add_le_add_right hb1 _) hsl⟩)
  dsimp only [Pt.U, Pt.locs, Pt.cells, Pt.slots] at X' l' y' z' st' hQ
  subst l' y' z'
  exact (g v T' _ hQ.1 ⟨C, rfl, _, _, _, Nat.add_le_add_right ha _, Nat.add_le_add_right hb1 _, Fr.app hF hQ.2, X'⟩).step fun t q => st'.trans q
theorem go_callP (W : On k Z n0 E T h cells slots) {kc : Mt} {index : Nat} {a : Addr} {K : String} {argsL rest : List Value} {ps : List FieldType} {r : Option FieldType} {Q : Option Value → Heap → Prop} (w1 : (Cond.methodLink k.y.cls index kc.y).before a0 Z = true) (w2 : (Cond.instanceMethod kc.y).before a0 Z = true) (w3 : (Cond.selects kc.y.cls kc.y kc.y).before a0 Z = true) (w4 : (Cond.privateMethod kc.y).before a0 Z = true) (w5 : (Cond.initialized kc.y.cls).before a0 Z = true) (w6 : (Cond.code kc.y kc.bytes kc.maxL kc.ret).before a0 Z = true)
    (Ex : Exa Z h a K) (c : Ct E.l Z kc (.ref a :: argsL).toArray h n0 Q) (hy : kc.y.cls ≠ "java/lang/invoke/MethodHandle" ∧ kc.y.cls ≠ "java/lang/invoke/VarHandle") (hdesc : parseMethodDescriptor kc.y.desc = some ⟨ps, r⟩) (hlen : argsL.length = ps.length) (hst : st = argsL.reverse ++ .ref a :: rest) (hm : Ls.size = k.maxL)
    (hf : kc.rm.frames + 1 ≤ k.rm.frames) (hl : (rest.map fun v => v.category).sum + (kc.maxL + 11) + kc.rm.locals ≤ k.rm.locals) (hcl : cells + kc.rm.cells ≤ k.rm.cells) (hsl : slots + kc.rm.slots ≤ k.rm.slots) (hd : decode k.bytes pc = .ok (.invokevirtual index, 3)) (hp : pc + 3 = pc')
    (g : ∀ v T' h', Q v h' → On k Z n0 E T' h' (cells + kc.rm.cells) (slots + kc.rm.slots) → Go E G (Fm E T' pc' Ls (v.toList ++ rest))) : Go E G (Fm E T pc Ls st) := by
  obtain ⟨C, hh, L, a1, b1, ha, hb1, hF, X⟩ := W
  subst hp
  have hZ := C.2.2.2.2.2.2.1
  obtain ⟨cq, q1, q2⟩ := Ex.cell
  obtain ⟨v, _, ⟨T', L', k', n'⟩, -, X', ⟨Lc, hQ, l', y', z'⟩, st'⟩ := X.privateBack C.1 (y := kc.y) C.2.2.2.1 (mvT hZ w1) (mvT hZ w2) (mvT hZ w3) (Cond.privateMethod_at (mvP hZ w4 (args := #[]))) (mvT hZ w6) hy (c.back (k := k) (W := (rest.map fun v => v.category).sum) hZ w6 w5 hf hl) (g := mkF E.m pc Ls st) rfl (hm.trans C.2.2.1.symm) (Steps.refl _) (a := a) (by rw [hh]; exact q1) q2 (argsL := argsL) (rest := rest) (lenOf hdesc hlen) hst (by show 2 * 0 + _ ≤ _; omega) (hb C.2.1 hd) (fun _ _ => ⟨rfl, hh, Nat.le_trans (Nat.add_le_add_right ha _) hcl, Nat.le_trans (Nat.add_le_add_right hb1 _) hsl⟩)
  dsimp only [Pt.U, Pt.locs, Pt.cells, Pt.slots] at X' l' y' z' st' hQ
  subst l' y' z'
  exact (g v T' _ hQ.1 ⟨C, rfl, _, _, _, Nat.add_le_add_right ha _, Nat.add_le_add_right hb1 _, Fr.app hF hQ.2, X'⟩).step fun t q => st'.trans q
theorem go_callF (W : On k Z n0 E T h cells slots) {kc : Mt} {y : MethodName} {K : String} {index count : Nat} {a : Addr} {argsL rest : List Value} {ps : List FieldType} {r : Option FieldType} {Q : Option Value → Heap → Prop} (w1 : (Cond.methodLink k.y.cls index y).before a0 Z = true) (w2 : (Cond.declares y).before a0 Z = true) (w2' : (Cond.interfaceMethod y.cls y.cls y.name y.desc).before a0 Z = true) (w3 : (Cond.selects K y kc.y).before a0 Z = true) (w4 : (Cond.instanceMethod kc.y).before a0 Z = true) (w4' : (Cond.publicMethod kc.y).before a0 Z = true) (w4'' : (Cond.unhidden K y.name y.desc).before a0 Z = true) (wk : (Cond.castable K y.cls).before a0 Z = true) (w5 : (Cond.initialized kc.y.cls).before a0 Z = true) (w6 : (Cond.code kc.y kc.bytes kc.maxL kc.ret).before a0 Z = true)
    (Ex : Exa Z h a K) (c : Ct E.l Z kc (.ref a :: argsL).toArray h n0 Q) (hy : y.cls ≠ "java/lang/invoke/MethodHandle" ∧ y.cls ≠ "java/lang/invoke/VarHandle") (hdesc : parseMethodDescriptor y.desc = some ⟨ps, r⟩) (hlen : argsL.length = ps.length) (hst : st = argsL.reverse ++ .ref a :: rest) (hm : Ls.size = k.maxL)
    (hf : kc.rm.frames + 1 ≤ k.rm.frames) (hl : (rest.map fun v => v.category).sum + (kc.maxL + 11) + kc.rm.locals ≤ k.rm.locals) (hcl : cells + kc.rm.cells ≤ k.rm.cells) (hsl : slots + kc.rm.slots ≤ k.rm.slots) (hd : decode k.bytes pc = .ok (.invokeinterface index count, 5)) (hp : pc + 5 = pc')
    (g : ∀ v T' h', Q v h' → On k Z n0 E T' h' (cells + kc.rm.cells) (slots + kc.rm.slots) → Go E G (Fm E T' pc' Ls (v.toList ++ rest))) : Go E G (Fm E T pc Ls st) := by
  obtain ⟨C, hh, L, a1, b1, ha, hb1, hF, X⟩ := W
  subst hp
  have hZ := C.2.2.2.2.2.2.1
  obtain ⟨cq, kq, qa, qb, qc⟩ := isOf (T := T) hZ hh Ex
  obtain ⟨v, _, ⟨T', L', k', n'⟩, -, X', ⟨Lc, hQ, l', y', z'⟩, st'⟩ := X.interfaceBack C.1 (xi := y) (y := kc.y) C.2.2.2.1 (mvT hZ w1) (mvT hZ w2) (mvT hZ w2' (by simp [Cond.onTables, Cond.keepsFace, Cond.keeps, Cond.steady, Cond.faceAtom, hy.1, hy.2])) (mvT hZ w3) (mvT hZ w4) (mvT hZ w4') (mvT hZ w4'') (mvT hZ wk) hy (c.back (k := k) (W := (rest.map fun v => v.category).sum) hZ w6 w5 hf hl) qa qb qc (g := mkF E.m pc Ls st) rfl (hm.trans C.2.2.1.symm) (Steps.refl _) (argsL := argsL) (rest := rest) (lenOf hdesc hlen) hst (by show 2 * 0 + _ ≤ _; omega) (hb C.2.1 hd) (fun _ _ => ⟨rfl, hh, Nat.le_trans (Nat.add_le_add_right ha _) hcl, Nat.le_trans (Nat.add_le_add_right hb1 _) hsl⟩)
  dsimp only [Pt.U, Pt.locs, Pt.cells, Pt.slots] at X' l' y' z' st' hQ
  subst l' y' z'
  exact (g v T' _ hQ.1 ⟨C, rfl, _, _, _, Nat.add_le_add_right ha _, Nat.add_le_add_right hb1 _, Fr.app hF hQ.2, X'⟩).step fun t q => st'.trans q
end
end Jvm.GoKit
namespace Jvm.Pilot.@@N@@
open Jvm Jvm.ClassFile Sem Op Lib Jvm.Free Jvm.Stand Jvm.LawKit Jvm.RoadKit Bundle Jvm.GoKit Jvm.Pilot.@@N@@.Jvm.D
abbrev Hw (a0 : Array Value) (Z : State) : Prop := ∀ d ∈ tables_1, d.before a0 Z = true
theorem w0 {a0 : Array Value} {Z : State} (hw : Hw a0 Z) : (Jvm.Cond.constant "com/example/bramble_tree/brambletree/rules/ElementSetModeAddsPinLaw" (25 : Nat) (2147483647 : Int32)).before a0 Z = true := hw _ (List.mem_of_getElem? (i := 0) rfl)
theorem w1 {a0 : Array Value} {Z : State} (hw : Hw a0 Z) : (Jvm.Cond.methodLink "com/example/bramble_tree/brambletree/rules/ElementSetModeAddsPinLaw" (26 : Nat) ({ cls := "com/example/bramble_tree/brambletree/rules/ElementSetModeAddsPinLaw", name := "modeOf", desc := "(I)Lcom/example/bramble_tree/brambletree/rules/ElementSetMode;" } : Jvm.MethodName)).before a0 Z = true := hw _ (List.mem_of_getElem? (i := 1) rfl)
theorem w2 {a0 : Array Value} {Z : State} (hw : Hw a0 Z) : (Jvm.Cond.static ({ cls := "com/example/bramble_tree/brambletree/rules/ElementSetModeAddsPinLaw", name := "modeOf", desc := "(I)Lcom/example/bramble_tree/brambletree/rules/ElementSetMode;" } : Jvm.MethodName)).before a0 Z = true := hw _ (List.mem_of_getElem? (i := 2) rfl)
theorem w3 {a0 : Array Value} {Z : State} (hw : Hw a0 Z) : (Jvm.Cond.initialized "com/example/bramble_tree/brambletree/rules/ElementSetModeAddsPinLaw").before a0 Z = true := hw _ (List.mem_of_getElem? (i := 3) rfl)
theorem w4 {a0 : Array Value} {Z : State} (hw : Hw a0 Z) : (Jvm.Cond.code ({ cls := "com/example/bramble_tree/brambletree/rules/ElementSetModeAddsPinLaw", name := "modeOf", desc := "(I)Lcom/example/bramble_tree/brambletree/rules/ElementSetMode;" } : Jvm.MethodName) method_2_code (1 : Nat) (Option.some (Jvm.ClassFile.FieldType.object "com/example/bramble_tree/brambletree/rules/ElementSetMode"))).before a0 Z = true := hw _ (List.mem_of_getElem? (i := 4) rfl)
theorem w5 {a0 : Array Value} {Z : State} (hw : Hw a0 Z) : (Jvm.Cond.fieldLink "com/example/bramble_tree/brambletree/rules/ElementSetModeAddsPinLaw" (7 : Nat) "com/example/bramble_tree/brambletree/rules/ElementSetMode" "CURRENT" "Lcom/example/bramble_tree/brambletree/rules/ElementSetMode;").before a0 Z = true := hw _ (List.mem_of_getElem? (i := 5) rfl)
theorem w6 {a0 : Array Value} {Z : State} (hw : Hw a0 Z) : (Jvm.Cond.initialized "com/example/bramble_tree/brambletree/rules/ElementSetMode").before a0 Z = true := hw _ (List.mem_of_getElem? (i := 6) rfl)
theorem w7 {a0 : Array Value} {Z : State} (hw : Hw a0 Z) : (Jvm.Cond.laysStatic "com/example/bramble_tree/brambletree/rules/ElementSetMode" "CURRENT" "Lcom/example/bramble_tree/brambletree/rules/ElementSetMode;").before a0 Z = true := hw _ (List.mem_of_getElem? (i := 7) rfl)
theorem w8 {a0 : Array Value} {Z : State} (hw : Hw a0 Z) : (Jvm.Cond.methodLink "com/example/bramble_tree/brambletree/rules/ElementSetModeAddsPinLaw" (32 : Nat) ({ cls := "com/example/bramble_tree/brambletree/rules/ElementSetMode", name := "adds", desc := "(Z)Z" } : Jvm.MethodName)).before a0 Z = true := hw _ (List.mem_of_getElem? (i := 8) rfl)
theorem w9 {a0 : Array Value} {Z : State} (hw : Hw a0 Z) : (Jvm.Cond.declares ({ cls := "com/example/bramble_tree/brambletree/rules/ElementSetMode", name := "adds", desc := "(Z)Z" } : Jvm.MethodName)).before a0 Z = true := hw _ (List.mem_of_getElem? (i := 9) rfl)
theorem w10 {a0 : Array Value} {Z : State} (hw : Hw a0 Z) : (Jvm.Cond.instanceMethod ({ cls := "com/example/bramble_tree/brambletree/rules/ElementSetMode", name := "adds", desc := "(Z)Z" } : Jvm.MethodName)).before a0 Z = true := hw _ (List.mem_of_getElem? (i := 10) rfl)
theorem w11 {a0 : Array Value} {Z : State} (hw : Hw a0 Z) : (Jvm.Cond.selects "com/example/bramble_tree/brambletree/rules/ElementSetMode" ({ cls := "com/example/bramble_tree/brambletree/rules/ElementSetMode", name := "adds", desc := "(Z)Z" } : Jvm.MethodName) ({ cls := "com/example/bramble_tree/brambletree/rules/ElementSetMode", name := "adds", desc := "(Z)Z" } : Jvm.MethodName)).before a0 Z = true := hw _ (List.mem_of_getElem? (i := 11) rfl)
theorem w12 {a0 : Array Value} {Z : State} (hw : Hw a0 Z) : (Jvm.Cond.code ({ cls := "com/example/bramble_tree/brambletree/rules/ElementSetMode", name := "adds", desc := "(Z)Z" } : Jvm.MethodName) prog_54_method_6_code (2 : Nat) (Option.some Jvm.ClassFile.FieldType.boolean)).before a0 Z = true := hw _ (List.mem_of_getElem? (i := 12) rfl)
theorem w13 {a0 : Array Value} {Z : State} (hw : Hw a0 Z) : (Jvm.Cond.methodLink "com/example/bramble_tree/brambletree/rules/ElementSetMode" (51 : Nat) ({ cls := "com/example/bramble_tree/brambletree/rules/ElementSetMode", name := "ordinal", desc := "()I" } : Jvm.MethodName)).before a0 Z = true := hw _ (List.mem_of_getElem? (i := 13) rfl)
theorem w14 {a0 : Array Value} {Z : State} (hw : Hw a0 Z) : (Jvm.Cond.sameMethod "com/example/bramble_tree/brambletree/rules/ElementSetMode" "java/lang/Enum" "ordinal" "()I").before a0 Z = true := hw _ (List.mem_of_getElem? (i := 14) rfl)
theorem w15 {a0 : Array Value} {Z : State} (hw : Hw a0 Z) : (Jvm.Cond.declares ({ cls := "java/lang/Enum", name := "ordinal", desc := "()I" } : Jvm.MethodName)).before a0 Z = true := hw _ (List.mem_of_getElem? (i := 15) rfl)
theorem w16 {a0 : Array Value} {Z : State} (hw : Hw a0 Z) : (Jvm.Cond.instanceMethod ({ cls := "java/lang/Enum", name := "ordinal", desc := "()I" } : Jvm.MethodName)).before a0 Z = true := hw _ (List.mem_of_getElem? (i := 16) rfl)
theorem w17 {a0 : Array Value} {Z : State} (hw : Hw a0 Z) : (Jvm.Cond.selects "com/example/bramble_tree/brambletree/rules/ElementSetMode" ({ cls := "com/example/bramble_tree/brambletree/rules/ElementSetMode", name := "ordinal", desc := "()I" } : Jvm.MethodName) ({ cls := "java/lang/Enum", name := "ordinal", desc := "()I" } : Jvm.MethodName)).before a0 Z = true := hw _ (List.mem_of_getElem? (i := 17) rfl)
theorem w18 {a0 : Array Value} {Z : State} (hw : Hw a0 Z) : (Jvm.Cond.initialized "java/lang/Enum").before a0 Z = true := hw _ (List.mem_of_getElem? (i := 18) rfl)
theorem w19 {a0 : Array Value} {Z : State} (hw : Hw a0 Z) : (Jvm.Cond.code ({ cls := "java/lang/Enum", name := "ordinal", desc := "()I" } : Jvm.MethodName) jdk_37_method_2_code (1 : Nat) (Option.some Jvm.ClassFile.FieldType.int)).before a0 Z = true := hw _ (List.mem_of_getElem? (i := 19) rfl)
theorem w20 {a0 : Array Value} {Z : State} (hw : Hw a0 Z) : (Jvm.Cond.fieldLink "java/lang/Enum" (7 : Nat) "java/lang/Enum" "ordinal" "I").before a0 Z = true := hw _ (List.mem_of_getElem? (i := 20) rfl)
theorem w22 {a0 : Array Value} {Z : State} (hw : Hw a0 Z) : (Jvm.Cond.fieldLink "com/example/bramble_tree/brambletree/rules/ElementSetModeAddsPinLaw" (22 : Nat) "com/example/bramble_tree/brambletree/rules/ElementSetMode" "NONE" "Lcom/example/bramble_tree/brambletree/rules/ElementSetMode;").before a0 Z = true := hw _ (List.mem_of_getElem? (i := 22) rfl)
theorem w23 {a0 : Array Value} {Z : State} (hw : Hw a0 Z) : (Jvm.Cond.laysStatic "com/example/bramble_tree/brambletree/rules/ElementSetMode" "NONE" "Lcom/example/bramble_tree/brambletree/rules/ElementSetMode;").before a0 Z = true := hw _ (List.mem_of_getElem? (i := 23) rfl)
theorem w24 {a0 : Array Value} {Z : State} (hw : Hw a0 Z) : (Jvm.Cond.fieldLink "com/example/bramble_tree/brambletree/rules/ElementSetModeAddsPinLaw" (19 : Nat) "com/example/bramble_tree/brambletree/rules/ElementSetMode" "RELEASE_THEN_CURRENT" "Lcom/example/bramble_tree/brambletree/rules/ElementSetMode;").before a0 Z = true := hw _ (List.mem_of_getElem? (i := 24) rfl)
theorem w25 {a0 : Array Value} {Z : State} (hw : Hw a0 Z) : (Jvm.Cond.laysStatic "com/example/bramble_tree/brambletree/rules/ElementSetMode" "RELEASE_THEN_CURRENT" "Lcom/example/bramble_tree/brambletree/rules/ElementSetMode;").before a0 Z = true := hw _ (List.mem_of_getElem? (i := 25) rfl)
theorem w26 {a0 : Array Value} {Z : State} (hw : Hw a0 Z) : (Jvm.Cond.methodLink "com/example/bramble_tree/brambletree/rules/ElementSetModeAddsPinLaw" (36 : Nat) ({ cls := "com/example/bramble_tree/brambletree/rules/ElementSetMode", name := "removes", desc := "(Z)Z" } : Jvm.MethodName)).before a0 Z = true := hw _ (List.mem_of_getElem? (i := 26) rfl)
theorem w27 {a0 : Array Value} {Z : State} (hw : Hw a0 Z) : (Jvm.Cond.declares ({ cls := "com/example/bramble_tree/brambletree/rules/ElementSetMode", name := "removes", desc := "(Z)Z" } : Jvm.MethodName)).before a0 Z = true := hw _ (List.mem_of_getElem? (i := 27) rfl)
theorem w28 {a0 : Array Value} {Z : State} (hw : Hw a0 Z) : (Jvm.Cond.instanceMethod ({ cls := "com/example/bramble_tree/brambletree/rules/ElementSetMode", name := "removes", desc := "(Z)Z" } : Jvm.MethodName)).before a0 Z = true := hw _ (List.mem_of_getElem? (i := 28) rfl)
theorem w29 {a0 : Array Value} {Z : State} (hw : Hw a0 Z) : (Jvm.Cond.selects "com/example/bramble_tree/brambletree/rules/ElementSetMode" ({ cls := "com/example/bramble_tree/brambletree/rules/ElementSetMode", name := "removes", desc := "(Z)Z" } : Jvm.MethodName) ({ cls := "com/example/bramble_tree/brambletree/rules/ElementSetMode", name := "removes", desc := "(Z)Z" } : Jvm.MethodName)).before a0 Z = true := hw _ (List.mem_of_getElem? (i := 29) rfl)
theorem w30 {a0 : Array Value} {Z : State} (hw : Hw a0 Z) : (Jvm.Cond.code ({ cls := "com/example/bramble_tree/brambletree/rules/ElementSetMode", name := "removes", desc := "(Z)Z" } : Jvm.MethodName) prog_54_method_5_code (2 : Nat) (Option.some Jvm.ClassFile.FieldType.boolean)).before a0 Z = true := hw _ (List.mem_of_getElem? (i := 30) rfl)
theorem w31 {a0 : Array Value} {Z : State} (hw : Hw a0 Z) : (Jvm.Cond.fieldLink "com/example/bramble_tree/brambletree/rules/ElementSetModeAddsPinLaw" (13 : Nat) "com/example/bramble_tree/brambletree/rules/ElementSetMode" "RELEASE" "Lcom/example/bramble_tree/brambletree/rules/ElementSetMode;").before a0 Z = true := hw _ (List.mem_of_getElem? (i := 31) rfl)
theorem w32 {a0 : Array Value} {Z : State} (hw : Hw a0 Z) : (Jvm.Cond.laysStatic "com/example/bramble_tree/brambletree/rules/ElementSetMode" "RELEASE" "Lcom/example/bramble_tree/brambletree/rules/ElementSetMode;").before a0 Z = true := hw _ (List.mem_of_getElem? (i := 32) rfl)
theorem w33 {a0 : Array Value} {Z : State} (hw : Hw a0 Z) : (Jvm.Cond.fieldLink "com/example/bramble_tree/brambletree/rules/ElementSetModeAddsPinLaw" (16 : Nat) "com/example/bramble_tree/brambletree/rules/ElementSetMode" "CURRENT_THEN_RELEASE" "Lcom/example/bramble_tree/brambletree/rules/ElementSetMode;").before a0 Z = true := hw _ (List.mem_of_getElem? (i := 33) rfl)
theorem w34 {a0 : Array Value} {Z : State} (hw : Hw a0 Z) : (Jvm.Cond.laysStatic "com/example/bramble_tree/brambletree/rules/ElementSetMode" "CURRENT_THEN_RELEASE" "Lcom/example/bramble_tree/brambletree/rules/ElementSetMode;").before a0 Z = true := hw _ (List.mem_of_getElem? (i := 34) rfl)
theorem pd0 : parseMethodDescriptor "()I" = some ⟨[], some .int⟩ := by decide +kernel
theorem pd1 : parseMethodDescriptor "(I)Lcom/example/bramble_tree/brambletree/rules/ElementSetMode;" = some ⟨[.int], some (.object "com/example/bramble_tree/brambletree/rules/ElementSetMode")⟩ := by decide +kernel
theorem pd2 : parseMethodDescriptor "(Z)Z" = some ⟨[.boolean], some .boolean⟩ := by decide +kernel
abbrev K0 : Mt := (x, code, maxLocals, ret, room_1)
def K1 : Mt := (⟨"com/example/bramble_tree/brambletree/rules/ElementSetModeAddsPinLaw", "modeOf", "(I)Lcom/example/bramble_tree/brambletree/rules/ElementSetMode;"⟩, method_2_code, 1, some (.object "com/example/bramble_tree/brambletree/rules/ElementSetMode"), ⟨0, 0, 0, 0⟩)
def K2 : Mt := (⟨"com/example/bramble_tree/brambletree/rules/ElementSetMode", "adds", "(Z)Z"⟩, prog_54_method_6_code, 2, some .boolean, ⟨1, 0, 0, 20⟩)
def K3 : Mt := (⟨"java/lang/Enum", "ordinal", "()I"⟩, jdk_37_method_2_code, 1, some .int, ⟨0, 0, 0, 0⟩)
def K4 : Mt := (⟨"com/example/bramble_tree/brambletree/rules/ElementSetMode", "removes", "(Z)Z"⟩, prog_54_method_5_code, 2, some .boolean, ⟨1, 0, 0, 20⟩)
theorem d0_0 : decode K0.bytes 0 = .ok (.iload_n 0, 1) := at_0
theorem d0_1 : decode K0.bytes 1 = .ok (.ldc 25, 2) := at_1
theorem d0_3 : decode K0.bytes 3 = .ok (.iand, 1) := at_3
theorem d0_4 : decode K0.bytes 4 = .ok (.iconst 5, 1) := at_4
theorem d0_5 : decode K0.bytes 5 = .ok (.irem, 1) := at_5
theorem d0_6 : decode K0.bytes 6 = .ok (.istore_n 2, 1) := at_6
theorem d0_7 : decode K0.bytes 7 = .ok (.iload_n 1, 1) := at_7
theorem d0_8 : decode K0.bytes 8 = .ok (.iconst 1, 1) := at_8
theorem d0_9 : decode K0.bytes 9 = .ok (.iand, 1) := at_9
theorem d0_10 : decode K0.bytes 10 = .ok (.ifCond .eq 7, 3) := at_10
theorem d0_13 : decode K0.bytes 13 = .ok (.iconst 1, 1) := at_13
theorem d0_14 : decode K0.bytes 14 = .ok (.goto 4, 3) := at_14
theorem d0_17 : decode K0.bytes 17 = .ok (.iconst 0, 1) := at_17
theorem d0_18 : decode K0.bytes 18 = .ok (.istore_n 3, 1) := at_18
theorem d0_19 : decode K0.bytes 19 = .ok (.iload_n 2, 1) := at_19
theorem d0_20 : decode K0.bytes 20 = .ok (.invokestatic 26, 3) := at_20
theorem d0_23 : decode K0.bytes 23 = .ok (.astore 4, 2) := at_23
theorem d0_25 : decode K0.bytes 25 = .ok (.iload_n 2, 1) := at_25
theorem d0_26 : decode K0.bytes 26 = .ok (.ifCond .eq 8, 3) := at_26
theorem d0_29 : decode K0.bytes 29 = .ok (.iload_n 2, 1) := at_29
theorem d0_30 : decode K0.bytes 30 = .ok (.iconst 4, 1) := at_30
theorem d0_31 : decode K0.bytes 31 = .ok (.if_icmp .ne 9, 3) := at_31
theorem d0_34 : decode K0.bytes 34 = .ok (.iconst 0, 1) := at_34
theorem d0_35 : decode K0.bytes 35 = .ok (.istore 5, 2) := at_35
theorem d0_37 : decode K0.bytes 37 = .ok (.goto 25, 3) := at_37
theorem d0_40 : decode K0.bytes 40 = .ok (.iload_n 2, 1) := at_40
theorem d0_41 : decode K0.bytes 41 = .ok (.iconst 2, 1) := at_41
theorem d0_42 : decode K0.bytes 42 = .ok (.if_icmp .ne 17, 3) := at_42
theorem d0_45 : decode K0.bytes 45 = .ok (.iload_n 3, 1) := at_45
theorem d0_46 : decode K0.bytes 46 = .ok (.ifCond .ne 7, 3) := at_46
theorem d0_49 : decode K0.bytes 49 = .ok (.iconst 1, 1) := at_49
theorem d0_50 : decode K0.bytes 50 = .ok (.goto 4, 3) := at_50
theorem d0_53 : decode K0.bytes 53 = .ok (.iconst 0, 1) := at_53
theorem d0_54 : decode K0.bytes 54 = .ok (.istore 5, 2) := at_54
theorem d0_56 : decode K0.bytes 56 = .ok (.goto 6, 3) := at_56
theorem d0_59 : decode K0.bytes 59 = .ok (.iconst 1, 1) := at_59
theorem d0_60 : decode K0.bytes 60 = .ok (.istore 5, 2) := at_60
theorem d0_62 : decode K0.bytes 62 = .ok (.aload 4, 2) := at_62
theorem d0_64 : decode K0.bytes 64 = .ok (.iload_n 3, 1) := at_64
theorem d0_65 : decode K0.bytes 65 = .ok (.invokevirtual 32, 3) := at_65
theorem d0_68 : decode K0.bytes 68 = .ok (.istore 6, 2) := at_68
theorem d0_70 : decode K0.bytes 70 = .ok (.iload_n 3, 1) := at_70
theorem d0_71 : decode K0.bytes 71 = .ok (.ifCond .eq 17, 3) := at_71
theorem d0_74 : decode K0.bytes 74 = .ok (.iload 6, 2) := at_74
theorem d0_76 : decode K0.bytes 76 = .ok (.ifCond .eq 12, 3) := at_76
theorem d0_79 : decode K0.bytes 79 = .ok (.aload 4, 2) := at_79
theorem d0_81 : decode K0.bytes 81 = .ok (.iconst 1, 1) := at_81
theorem d0_82 : decode K0.bytes 82 = .ok (.invokevirtual 36, 3) := at_82
theorem d0_85 : decode K0.bytes 85 = .ok (.ifCond .eq 7, 3) := at_85
theorem d0_88 : decode K0.bytes 88 = .ok (.iconst 1, 1) := at_88
theorem d0_89 : decode K0.bytes 89 = .ok (.goto 4, 3) := at_89
theorem d0_93 : decode K0.bytes 93 = .ok (.istore 7, 2) := at_93
theorem d0_95 : decode K0.bytes 95 = .ok (.iload 6, 2) := at_95
theorem d0_97 : decode K0.bytes 97 = .ok (.iload 5, 2) := at_97
theorem d0_99 : decode K0.bytes 99 = .ok (.if_icmp .ne 12, 3) := at_99
theorem d0_102 : decode K0.bytes 102 = .ok (.iload 7, 2) := at_102
theorem d0_104 : decode K0.bytes 104 = .ok (.ifCond .eq 7, 3) := at_104
theorem d0_107 : decode K0.bytes 107 = .ok (.iconst 1, 1) := at_107
theorem d0_108 : decode K0.bytes 108 = .ok (.goto 4, 3) := at_108
theorem d0_112 : decode K0.bytes 112 = .ok (.ireturn, 1) := at_112
theorem d1_0 : decode K1.bytes 0 = .ok (.iload_n 0, 1) := by decide +kernel
theorem d1_1 : decode K1.bytes 1 = .ok (.ifCond .ne 7, 3) := by decide +kernel
theorem d1_4 : decode K1.bytes 4 = .ok (.getstatic 7, 3) := by decide +kernel
theorem d1_7 : decode K1.bytes 7 = .ok (.areturn, 1) := by decide +kernel
theorem d1_8 : decode K1.bytes 8 = .ok (.iload_n 0, 1) := by decide +kernel
theorem d1_9 : decode K1.bytes 9 = .ok (.iconst 1, 1) := by decide +kernel
theorem d1_10 : decode K1.bytes 10 = .ok (.if_icmp .ne 7, 3) := by decide +kernel
theorem d1_13 : decode K1.bytes 13 = .ok (.getstatic 13, 3) := by decide +kernel
theorem d1_16 : decode K1.bytes 16 = .ok (.areturn, 1) := by decide +kernel
theorem d1_17 : decode K1.bytes 17 = .ok (.iload_n 0, 1) := by decide +kernel
theorem d1_18 : decode K1.bytes 18 = .ok (.iconst 2, 1) := by decide +kernel
theorem d1_19 : decode K1.bytes 19 = .ok (.if_icmp .ne 7, 3) := by decide +kernel
theorem d1_22 : decode K1.bytes 22 = .ok (.getstatic 16, 3) := by decide +kernel
theorem d1_25 : decode K1.bytes 25 = .ok (.areturn, 1) := by decide +kernel
theorem d1_26 : decode K1.bytes 26 = .ok (.iload_n 0, 1) := by decide +kernel
theorem d1_27 : decode K1.bytes 27 = .ok (.iconst 3, 1) := by decide +kernel
theorem d1_28 : decode K1.bytes 28 = .ok (.if_icmp .ne 7, 3) := by decide +kernel
theorem d1_31 : decode K1.bytes 31 = .ok (.getstatic 19, 3) := by decide +kernel
theorem d1_34 : decode K1.bytes 34 = .ok (.areturn, 1) := by decide +kernel
theorem d1_35 : decode K1.bytes 35 = .ok (.getstatic 22, 3) := by decide +kernel
theorem d1_38 : decode K1.bytes 38 = .ok (.areturn, 1) := by decide +kernel
theorem d2_0 : decode K2.bytes 0 = .ok (.aload_n 0, 1) := by decide +kernel
theorem d2_1 : decode K2.bytes 1 = .ok (.invokevirtual 51, 3) := by decide +kernel
theorem d2_4 : decode K2.bytes 4 = .ok (.tableswitch 36 0 4 #[46, 50, 54, 50, 46], 36) := by decide +kernel
theorem d2_50 : decode K2.bytes 50 = .ok (.iconst 0, 1) := by decide +kernel
theorem d2_51 : decode K2.bytes 51 = .ok (.goto 16, 3) := by decide +kernel
theorem d2_54 : decode K2.bytes 54 = .ok (.iconst 1, 1) := by decide +kernel
theorem d2_55 : decode K2.bytes 55 = .ok (.goto 12, 3) := by decide +kernel
theorem d2_58 : decode K2.bytes 58 = .ok (.iload_n 1, 1) := by decide +kernel
theorem d2_59 : decode K2.bytes 59 = .ok (.ifCond .ne 7, 3) := by decide +kernel
theorem d2_62 : decode K2.bytes 62 = .ok (.iconst 1, 1) := by decide +kernel
theorem d2_63 : decode K2.bytes 63 = .ok (.goto 4, 3) := by decide +kernel
theorem d2_66 : decode K2.bytes 66 = .ok (.iconst 0, 1) := by decide +kernel
theorem d2_67 : decode K2.bytes 67 = .ok (.ireturn, 1) := by decide +kernel
theorem d3_0 : decode K3.bytes 0 = .ok (.aload_n 0, 1) := by decide +kernel
theorem d3_1 : decode K3.bytes 1 = .ok (.getfield 7, 3) := by decide +kernel
theorem d3_4 : decode K3.bytes 4 = .ok (.ireturn, 1) := by decide +kernel
theorem d4_0 : decode K4.bytes 0 = .ok (.aload_n 0, 1) := by decide +kernel
theorem d4_1 : decode K4.bytes 1 = .ok (.invokevirtual 51, 3) := by decide +kernel
theorem d4_4 : decode K4.bytes 4 = .ok (.tableswitch 36 0 4 #[46, 50, 46, 54, 50], 36) := by decide +kernel
theorem d4_50 : decode K4.bytes 50 = .ok (.iconst 0, 1) := by decide +kernel
theorem d4_51 : decode K4.bytes 51 = .ok (.goto 8, 3) := by decide +kernel
theorem d4_54 : decode K4.bytes 54 = .ok (.iconst 1, 1) := by decide +kernel
theorem d4_55 : decode K4.bytes 55 = .ok (.goto 4, 3) := by decide +kernel
theorem d4_58 : decode K4.bytes 58 = .ok (.iload_n 1, 1) := by decide +kernel
theorem d4_59 : decode K4.bytes 59 = .ok (.ireturn, 1) := by decide +kernel
def own_mode (k : Int32) (e0 e1 e2 e3 e4 : Addr) : Addr := if k = 0 then e0 else if k = 1 then e1 else if k = 2 then e2 else if k = 3 then e3 else e4
def own_adds (o b : Int32) : Int32 := if o = 0 ∨ o = 4 then 0 else if o = 2 then (if b = 0 then 1 else 0) else 1
def own_rem (o : Int32) : Int32 := if o = 0 ∨ o = 2 then 0 else 1
theorem own_five (x : Int32) : (x &&& 2147483647) % 5 = 0 ∨ (x &&& 2147483647) % 5 = 1 ∨ (x &&& 2147483647) % 5 = 2 ∨ (x &&& 2147483647) % 5 = 3 ∨ (x &&& 2147483647) % 5 = 4 := by
  have h1 := (c_and x 2147483647 (by decide)).1
  have h2 := (c_irem (x &&& 2147483647) 5 5 rfl).1 h1
  simp only [← Int32.toInt_inj, Int32.reduceToInt]
  omega
set_option maxRecDepth 65536 in
set_option maxHeartbeats 4000000 in
theorem rm1 (l : Launch) (Z : State) (a0 : Array Value) (hw : Hw a0 Z) (k : Int32) (e0 e1 e2 e3 e4 r : Addr) (h0 : Heap) (n0 : Nat) (Z0 : n0 ≤ h0.size) (S0 : Sta Z h0 "com/example/bramble_tree/brambletree/rules/ElementSetMode" "CURRENT" "Lcom/example/bramble_tree/brambletree/rules/ElementSetMode;" (.ref e0)) (S1 : Sta Z h0 "com/example/bramble_tree/brambletree/rules/ElementSetMode" "RELEASE" "Lcom/example/bramble_tree/brambletree/rules/ElementSetMode;" (.ref e1)) (S2 : Sta Z h0 "com/example/bramble_tree/brambletree/rules/ElementSetMode" "CURRENT_THEN_RELEASE" "Lcom/example/bramble_tree/brambletree/rules/ElementSetMode;" (.ref e2)) (S3 : Sta Z h0 "com/example/bramble_tree/brambletree/rules/ElementSetMode" "RELEASE_THEN_CURRENT" "Lcom/example/bramble_tree/brambletree/rules/ElementSetMode;" (.ref e3)) (S4 : Sta Z h0 "com/example/bramble_tree/brambletree/rules/ElementSetMode" "NONE" "Lcom/example/bramble_tree/brambletree/rules/ElementSetMode;" (.ref e4)) (hr : own_mode k e0 e1 e2 e3 e4 = r) :
    Ct l Z K1 #[(.int k)] h0 n0 (fun v h => v = some (.ref r) ∧ h = h0) := by
  refine Ct.of (Ls := #[.val (.int k)]) (plainFor_of_name (by first | decide +kernel | (simp [plainName, overriddenIn]; done))) (fun m => by first | rfl | (simp [entryFrame, mkF, argsToLocals, Value.category]; done)) ?_
  intro E T W
  refine go_iloadN (pc' := 1) W d1_0 rfl rfl ?_
  refine go_if_ne (pt := 8) (pf := 4) W d1_1 (by decide) rfl rfl (fun c1_1 => ?_) (fun c1_1 => ?_)
  · -- pc 1 taken
    refine go_iloadN (pc' := 9) W d1_8 rfl rfl ?_
    refine go_iconst (pc' := 10) (z := 1) W d1_9 rfl rfl ?_
    refine go_icmp_ne (pt := 17) (pf := 13) W d1_10 (by decide) rfl rfl (fun c10_2 => ?_) (fun c10_2 => ?_)
    · -- pc 10 taken
      refine go_iloadN (pc' := 18) W d1_17 rfl rfl ?_
      refine go_iconst (pc' := 19) (z := 2) W d1_18 rfl rfl ?_
      refine go_icmp_ne (pt := 26) (pf := 22) W d1_19 (by decide) rfl rfl (fun c19_3 => ?_) (fun c19_3 => ?_)
      · -- pc 19 taken
        refine go_iloadN (pc' := 27) W d1_26 rfl rfl ?_
        refine go_iconst (pc' := 28) (z := 3) W d1_27 rfl rfl ?_
        refine go_icmp_ne (pt := 35) (pf := 31) W d1_28 (by decide) rfl rfl (fun c28_4 => ?_) (fun c28_4 => ?_)
        · -- pc 28 taken
          refine go_getS (pc' := 38) W (host := "") (Or.inl (w22 hw)) Via.refl S4 d1_35 rfl ?_
          intro T5 W5
          exact go_retA W5 (t := (.object "com/example/bramble_tree/brambletree/rules/ElementSetMode")) rfl rfl rfl rfl d1_38 (nb rfl) (nb rfl) (⟨by rw [← hr]; simp [own_mode, c1_1, c10_2, c19_3, c28_4], rfl⟩)
        · -- pc 28 not taken
          refine go_getS (pc' := 34) W (host := "") (Or.inl (w24 hw)) Via.refl S3 d1_31 rfl ?_
          intro T6 W6
          exact go_retA W6 (t := (.object "com/example/bramble_tree/brambletree/rules/ElementSetMode")) rfl rfl rfl rfl d1_34 (nb rfl) (nb rfl) (⟨by rw [← hr]; simp [own_mode, c1_1, c10_2, c19_3, c28_4], rfl⟩)
      · -- pc 19 not taken
        refine go_getS (pc' := 25) W (host := "") (Or.inl (w33 hw)) Via.refl S2 d1_22 rfl ?_
        intro T7 W7
        exact go_retA W7 (t := (.object "com/example/bramble_tree/brambletree/rules/ElementSetMode")) rfl rfl rfl rfl d1_25 (nb rfl) (nb rfl) (⟨by rw [← hr]; simp [own_mode, c1_1, c10_2, c19_3], rfl⟩)
    · -- pc 10 not taken
      refine go_getS (pc' := 16) W (host := "") (Or.inl (w31 hw)) Via.refl S1 d1_13 rfl ?_
      intro T8 W8
      exact go_retA W8 (t := (.object "com/example/bramble_tree/brambletree/rules/ElementSetMode")) rfl rfl rfl rfl d1_16 (nb rfl) (nb rfl) (⟨by rw [← hr]; simp [own_mode, c1_1, c10_2], rfl⟩)
  · -- pc 1 not taken
    refine go_getS (pc' := 7) W (host := "") (Or.inl (w5 hw)) Via.refl S0 d1_4 rfl ?_
    intro T9 W9
    exact go_retA W9 (t := (.object "com/example/bramble_tree/brambletree/rules/ElementSetMode")) rfl rfl rfl rfl d1_7 (nb rfl) (nb rfl) (⟨by rw [← hr]; simp [own_mode, c1_1], rfl⟩)
set_option maxRecDepth 65536 in
set_option maxHeartbeats 4000000 in
theorem rm3 (l : Launch) (Z : State) (a0 : Array Value) (hw : Hw a0 Z) (a : Addr) (o : Int32) (h0 : Heap) (n0 : Nat) (Z0 : n0 ≤ h0.size) (Fo : Fld Z h0 a "java/lang/Enum" "ordinal" "I" (.int o)) :
    Ct l Z K3 #[(.ref a)] h0 n0 (fun v h => v = some (.int o) ∧ h = h0) := by
  refine Ct.of (Ls := #[.val (.ref a)]) (plainFor_of_name (by first | decide +kernel | (simp [plainName, overriddenIn]; done))) (fun m => by first | rfl | (simp [entryFrame, mkF, argsToLocals, Value.category]; done)) ?_
  intro E T W
  refine go_aloadN (pc' := 1) W d3_0 rfl rfl rfl ?_
  refine go_getF (pc' := 4) W (host := "") (Or.inl (w20 hw)) Via.refl Fo d3_1 rfl ?_
  intro T10 W10
  exact go_retI W10 (t := .int) rfl (by simp) rfl d3_4 (nb rfl) (nb rfl) (⟨rfl, rfl⟩)
set_option maxRecDepth 65536 in
set_option maxHeartbeats 4000000 in
theorem rm2 (l : Launch) (Z : State) (a0 : Array Value) (hw : Hw a0 Z) (a : Addr) (b : Int32) (o r : Int32) (h0 : Heap) (n0 : Nat) (Z0 : n0 ≤ h0.size) (Ea : Exa Z h0 a "com/example/bramble_tree/brambletree/rules/ElementSetMode") (Fo : Fld Z h0 a "java/lang/Enum" "ordinal" "I" (.int o)) (ho : o = 0 ∨ o = 1 ∨ o = 2 ∨ o = 3 ∨ o = 4) (hr : own_adds o b = r) :
    Ct l Z K2 #[(.ref a), (.int b)] h0 n0 (fun v h => v = some (.int r) ∧ h = h0) := by
  refine Ct.of (Ls := #[.val (.ref a), .val (.int b)]) (plainFor_of_name (by first | decide +kernel | (simp [plainName, overriddenIn]; done))) (fun m => by first | rfl | (simp [entryFrame, mkF, argsToLocals, Value.category]; done)) ?_
  intro E T W
  refine go_aloadN (pc' := 1) W d2_0 rfl rfl rfl ?_
  refine go_callU (a := a) (kc := K3) (argsL := []) (rest := []) (pc' := 4) W (w13 hw) (w14 hw) (w15 hw) (w17 hw) (w16 hw) (w18 hw) (w19 hw) Ea (rm3 E.l Z a0 hw a o h0 n0 Z0 Fo) (by decide) pd0 rfl rfl rfl (nb rfl) (nb rfl) (nb rfl) (nb rfl) d2_1 rfl ?_
  rintro _ T11 h11 ⟨rfl, q11⟩ W11
  replace W11 := W11.sub q11
  show Go E _ (Fm E T11 4 #[.val (.ref a), .val (.int b)] [(.int o)])
  rcases ho with ho | ho | ho | ho | ho
  · subst ho
    refine go_tswIn (pc' := 50) W11 d2_4 (by decide) rfl (by decide) rfl ?_
    refine go_iconst (pc' := 51) (z := 0) W11 d2_50 rfl rfl ?_
    refine go_goto (pc' := 67) W11 d2_51 (by decide) rfl ?_
    exact go_retI W11 (t := .boolean) rfl (by simp) rfl d2_67 (nb rfl) (nb rfl) (⟨by rw [← hr]; simp [own_adds], rfl⟩)
  · subst ho
    refine go_tswIn (pc' := 54) W11 d2_4 (by decide) rfl (by decide) rfl ?_
    refine go_iconst (pc' := 55) (z := 1) W11 d2_54 rfl rfl ?_
    refine go_goto (pc' := 67) W11 d2_55 (by decide) rfl ?_
    exact go_retI W11 (t := .boolean) rfl (by simp) rfl d2_67 (nb rfl) (nb rfl) (⟨by rw [← hr]; simp [own_adds], rfl⟩)
  · subst ho
    refine go_tswIn (pc' := 58) W11 d2_4 (by decide) rfl (by decide) rfl ?_
    refine go_iloadN (pc' := 59) W11 d2_58 rfl rfl ?_
    refine go_if_ne (pt := 66) (pf := 62) W11 d2_59 (by decide) rfl rfl (fun c59_12 => ?_) (fun c59_12 => ?_)
    · -- pc 59 taken
      refine go_iconst (pc' := 67) (z := 0) W11 d2_66 rfl rfl ?_
      exact go_retI W11 (t := .boolean) rfl (by simp) rfl d2_67 (nb rfl) (nb rfl) (⟨by rw [← hr]; simp [own_adds, c59_12], rfl⟩)
    · -- pc 59 not taken
      refine go_iconst (pc' := 63) (z := 1) W11 d2_62 rfl rfl ?_
      refine go_goto (pc' := 67) W11 d2_63 (by decide) rfl ?_
      exact go_retI W11 (t := .boolean) rfl (by simp) rfl d2_67 (nb rfl) (nb rfl) (⟨by rw [← hr]; simp [own_adds, c59_12], rfl⟩)
  · subst ho
    refine go_tswIn (pc' := 54) W11 d2_4 (by decide) rfl (by decide) rfl ?_
    refine go_iconst (pc' := 55) (z := 1) W11 d2_54 rfl rfl ?_
    refine go_goto (pc' := 67) W11 d2_55 (by decide) rfl ?_
    exact go_retI W11 (t := .boolean) rfl (by simp) rfl d2_67 (nb rfl) (nb rfl) (⟨by rw [← hr]; simp [own_adds], rfl⟩)
  · subst ho
    refine go_tswIn (pc' := 50) W11 d2_4 (by decide) rfl (by decide) rfl ?_
    refine go_iconst (pc' := 51) (z := 0) W11 d2_50 rfl rfl ?_
    refine go_goto (pc' := 67) W11 d2_51 (by decide) rfl ?_
    exact go_retI W11 (t := .boolean) rfl (by simp) rfl d2_67 (nb rfl) (nb rfl) (⟨by rw [← hr]; simp [own_adds], rfl⟩)
set_option maxRecDepth 65536 in
set_option maxHeartbeats 4000000 in
theorem rm4 (l : Launch) (Z : State) (a0 : Array Value) (hw : Hw a0 Z) (a : Addr) (o r : Int32) (h0 : Heap) (n0 : Nat) (Z0 : n0 ≤ h0.size) (Ea : Exa Z h0 a "com/example/bramble_tree/brambletree/rules/ElementSetMode") (Fo : Fld Z h0 a "java/lang/Enum" "ordinal" "I" (.int o)) (ho : o = 0 ∨ o = 1 ∨ o = 2 ∨ o = 3 ∨ o = 4) (hr : own_rem o = r) :
    Ct l Z K4 #[(.ref a), (.int (1 : Int32))] h0 n0 (fun v h => v = some (.int r) ∧ h = h0) := by
  refine Ct.of (Ls := #[.val (.ref a), .val (.int (1 : Int32))]) (plainFor_of_name (by first | decide +kernel | (simp [plainName, overriddenIn]; done))) (fun m => by first | rfl | (simp [entryFrame, mkF, argsToLocals, Value.category]; done)) ?_
  intro E T W
  refine go_aloadN (pc' := 1) W d4_0 rfl rfl rfl ?_
  refine go_callU (a := a) (kc := K3) (argsL := []) (rest := []) (pc' := 4) W (w13 hw) (w14 hw) (w15 hw) (w17 hw) (w16 hw) (w18 hw) (w19 hw) Ea (rm3 E.l Z a0 hw a o h0 n0 Z0 Fo) (by decide) pd0 rfl rfl rfl (nb rfl) (nb rfl) (nb rfl) (nb rfl) d4_1 rfl ?_
  rintro _ T13 h13 ⟨rfl, q13⟩ W13
  replace W13 := W13.sub q13
  show Go E _ (Fm E T13 4 #[.val (.ref a), .val (.int (1 : Int32))] [(.int o)])
  rcases ho with ho | ho | ho | ho | ho
  · subst ho
    refine go_tswIn (pc' := 50) W13 d4_4 (by decide) rfl (by decide) rfl ?_
    refine go_iconst (pc' := 51) (z := 0) W13 d4_50 rfl rfl ?_
    refine go_goto (pc' := 59) W13 d4_51 (by decide) rfl ?_
    exact go_retI W13 (t := .boolean) rfl (by simp) rfl d4_59 (nb rfl) (nb rfl) (⟨by rw [← hr]; simp [own_rem], rfl⟩)
  · subst ho
    refine go_tswIn (pc' := 54) W13 d4_4 (by decide) rfl (by decide) rfl ?_
    refine go_iconst (pc' := 55) (z := 1) W13 d4_54 rfl rfl ?_
    refine go_goto (pc' := 59) W13 d4_55 (by decide) rfl ?_
    exact go_retI W13 (t := .boolean) rfl (by simp) rfl d4_59 (nb rfl) (nb rfl) (⟨by rw [← hr]; simp [own_rem], rfl⟩)
  · subst ho
    refine go_tswIn (pc' := 50) W13 d4_4 (by decide) rfl (by decide) rfl ?_
    refine go_iconst (pc' := 51) (z := 0) W13 d4_50 rfl rfl ?_
    refine go_goto (pc' := 59) W13 d4_51 (by decide) rfl ?_
    exact go_retI W13 (t := .boolean) rfl (by simp) rfl d4_59 (nb rfl) (nb rfl) (⟨by rw [← hr]; simp [own_rem], rfl⟩)
  · subst ho
    refine go_tswIn (pc' := 58) W13 d4_4 (by decide) rfl (by decide) rfl ?_
    refine go_iloadN (pc' := 59) W13 d4_58 rfl rfl ?_
    exact go_retI W13 (t := .boolean) rfl (by simp) rfl d4_59 (nb rfl) (nb rfl) (⟨by rw [← hr]; simp [own_rem], rfl⟩)
  · subst ho
    refine go_tswIn (pc' := 54) W13 d4_4 (by decide) rfl (by decide) rfl ?_
    refine go_iconst (pc' := 55) (z := 1) W13 d4_54 rfl rfl ?_
    refine go_goto (pc' := 59) W13 d4_55 (by decide) rfl ?_
    exact go_retI W13 (t := .boolean) rfl (by simp) rfl d4_59 (nb rfl) (nb rfl) (⟨by rw [← hr]; simp [own_rem], rfl⟩)
set_option maxRecDepth 65536 in
set_option maxHeartbeats 4000000 in
theorem rm0 (l : Launch) (Z : State) (a0 : Array Value) (hw : Hw a0 Z) (x0 : Int32) (x1 : Int32) (e0 e1 e2 e3 e4 : Addr) (h0 : Heap) (n0 : Nat) (Z0 : n0 ≤ h0.size) (S0 : Sta Z h0 "com/example/bramble_tree/brambletree/rules/ElementSetMode" "CURRENT" "Lcom/example/bramble_tree/brambletree/rules/ElementSetMode;" (.ref e0)) (S1 : Sta Z h0 "com/example/bramble_tree/brambletree/rules/ElementSetMode" "RELEASE" "Lcom/example/bramble_tree/brambletree/rules/ElementSetMode;" (.ref e1)) (S2 : Sta Z h0 "com/example/bramble_tree/brambletree/rules/ElementSetMode" "CURRENT_THEN_RELEASE" "Lcom/example/bramble_tree/brambletree/rules/ElementSetMode;" (.ref e2)) (S3 : Sta Z h0 "com/example/bramble_tree/brambletree/rules/ElementSetMode" "RELEASE_THEN_CURRENT" "Lcom/example/bramble_tree/brambletree/rules/ElementSetMode;" (.ref e3)) (S4 : Sta Z h0 "com/example/bramble_tree/brambletree/rules/ElementSetMode" "NONE" "Lcom/example/bramble_tree/brambletree/rules/ElementSetMode;" (.ref e4)) (X0 : Exa Z h0 e0 "com/example/bramble_tree/brambletree/rules/ElementSetMode") (F0 : Fld Z h0 e0 "java/lang/Enum" "ordinal" "I" (.int 0)) (X1 : Exa Z h0 e1 "com/example/bramble_tree/brambletree/rules/ElementSetMode") (F1 : Fld Z h0 e1 "java/lang/Enum" "ordinal" "I" (.int 1)) (X2 : Exa Z h0 e2 "com/example/bramble_tree/brambletree/rules/ElementSetMode") (F2 : Fld Z h0 e2 "java/lang/Enum" "ordinal" "I" (.int 2)) (X3 : Exa Z h0 e3 "com/example/bramble_tree/brambletree/rules/ElementSetMode") (F3 : Fld Z h0 e3 "java/lang/Enum" "ordinal" "I" (.int 3)) (X4 : Exa Z h0 e4 "com/example/bramble_tree/brambletree/rules/ElementSetMode") (F4 : Fld Z h0 e4 "java/lang/Enum" "ordinal" "I" (.int 4)) :
    Ct l Z K0 #[(.int x0), (.int x1)] h0 n0 (fun v h => v = some (.int 1)) := by
  refine Ct.of (Ls := #[.val (.int x0), .val (.int x1), .unset, .unset, .unset, .unset, .unset, .unset]) (plainFor_of_name (by first | decide +kernel | (simp [plainName, overriddenIn]; done))) (fun m => by first | rfl | (simp [entryFrame, mkF, argsToLocals, Value.category]; done)) ?_
  intro E T W
  refine go_iloadN (pc' := 1) W d0_0 rfl rfl ?_
  refine go_ldcInt (pc' := 3) W (w0 hw) d0_1 rfl ?_
  refine go_iand (pc' := 4) W d0_3 rfl ?_
  refine go_iconst (pc' := 5) (z := 5) W d0_4 rfl rfl ?_
  refine go_irem (pc' := 6) W d0_5 (by decide) rfl ?_
  refine go_istoreN (pc' := 7) (l' := #[.val (.int x0), .val (.int x1), .val (.int ((x0 &&& (2147483647 : Int32)) % (5 : Int32))), .unset, .unset, .unset, .unset, .unset]) W d0_6 rfl rfl ?_
  rcases own_five x0 with hk | hk | hk | hk | hk
  · rw [hk]
    refine go_iloadN (pc' := 8) W d0_7 rfl rfl ?_
    refine go_iconst (pc' := 9) (z := 1) W d0_8 rfl rfl ?_
    refine go_iand (pc' := 10) W d0_9 rfl ?_
    refine go_if_eq (pt := 17) (pf := 13) W d0_10 (by decide) rfl rfl (fun c10_14 => ?_) (fun c10_14 => ?_)
    · -- pc 10 taken
      refine go_iconst (pc' := 18) (z := 0) W d0_17 rfl rfl ?_
      refine go_istoreN (pc' := 19) (l' := #[.val (.int x0), .val (.int x1), .val (.int (0 : Int32)), .val (.int (0 : Int32)), .unset, .unset, .unset, .unset]) W d0_18 rfl rfl ?_
      refine go_iloadN (pc' := 20) W d0_19 rfl rfl ?_
      refine go_callS (kc := K1) (argsL := [(.int (0 : Int32))]) (rest := []) (pc' := 23) W (w1 hw) (w2 hw) (w3 hw) (w4 hw) (rm1 E.l Z a0 hw (0 : Int32) e0 e1 e2 e3 e4 e0 h0 n0 Z0 S0 S1 S2 S3 S4 (by simp [own_mode])) (by decide) pd1 rfl rfl rfl (nb rfl) (nb rfl) (nb rfl) (nb rfl) d0_20 rfl ?_
      rintro _ T15 h15 ⟨rfl, q15⟩ W15
      replace W15 := W15.sub q15
      show Go E _ (Fm E T15 23 #[.val (.int x0), .val (.int x1), .val (.int (0 : Int32)), .val (.int (0 : Int32)), .unset, .unset, .unset, .unset] [(.ref e0)])
      refine go_astore (pc' := 25) (l' := #[.val (.int x0), .val (.int x1), .val (.int (0 : Int32)), .val (.int (0 : Int32)), .val (.ref e0), .unset, .unset, .unset]) W15 d0_23 rfl rfl rfl ?_
      refine go_iloadN (pc' := 26) W15 d0_25 rfl rfl ?_
      refine go_if_eq (pt := 34) (pf := 29) W15 d0_26 (by decide) rfl rfl (fun c26_16 => ?_) (fun c26_16 => ?_)
      · -- pc 26 taken
        refine go_iconst (pc' := 35) (z := 0) W15 d0_34 rfl rfl ?_
        refine go_istore (pc' := 37) (l' := #[.val (.int x0), .val (.int x1), .val (.int (0 : Int32)), .val (.int (0 : Int32)), .val (.ref e0), .val (.int (0 : Int32)), .unset, .unset]) W15 d0_35 rfl rfl ?_
        refine go_goto (pc' := 62) W15 d0_37 (by decide) rfl ?_
        refine go_aload (pc' := 64) W15 d0_62 rfl rfl rfl ?_
        refine go_iloadN (pc' := 65) W15 d0_64 rfl rfl ?_
        refine go_callV (a := e0) (kc := K2) (argsL := [(.int (0 : Int32))]) (rest := []) (pc' := 68) W15 (w8 hw) (w9 hw) (nf_sel W15 (w11 hw)) (w11 hw) (w10 hw) (w6 hw) (w12 hw) X0 (rm2 E.l Z a0 hw e0 (0 : Int32) 0 0 h0 n0 Z0 X0 F0 (Or.inl rfl) (by decide)) (by decide) pd2 rfl rfl rfl (nb rfl) (nb rfl) (nb rfl) (nb rfl) d0_65 rfl ?_
        rintro _ T17 h17 ⟨rfl, q17⟩ W17
        replace W17 := W17.sub q17
        show Go E _ (Fm E T17 68 #[.val (.int x0), .val (.int x1), .val (.int (0 : Int32)), .val (.int (0 : Int32)), .val (.ref e0), .val (.int (0 : Int32)), .unset, .unset] [(.int (0 : Int32))])
        refine go_istore (pc' := 70) (l' := #[.val (.int x0), .val (.int x1), .val (.int (0 : Int32)), .val (.int (0 : Int32)), .val (.ref e0), .val (.int (0 : Int32)), .val (.int (0 : Int32)), .unset]) W17 d0_68 rfl rfl ?_
        refine go_iloadN (pc' := 71) W17 d0_70 rfl rfl ?_
        refine go_if_eq (pt := 88) (pf := 74) W17 d0_71 (by decide) rfl rfl (fun c71_18 => ?_) (fun c71_18 => ?_)
        · -- pc 71 taken
          refine go_iconst (pc' := 89) (z := 1) W17 d0_88 rfl rfl ?_
          refine go_goto (pc' := 93) W17 d0_89 (by decide) rfl ?_
          refine go_istore (pc' := 95) (l' := #[.val (.int x0), .val (.int x1), .val (.int (0 : Int32)), .val (.int (0 : Int32)), .val (.ref e0), .val (.int (0 : Int32)), .val (.int (0 : Int32)), .val (.int (1 : Int32))]) W17 d0_93 rfl rfl ?_
          refine go_iload (pc' := 97) W17 d0_95 rfl rfl ?_
          refine go_iload (pc' := 99) W17 d0_97 rfl rfl ?_
          refine go_icmp_ne (pt := 111) (pf := 102) W17 d0_99 (by decide) rfl rfl (fun c99_19 => ?_) (fun c99_19 => ?_)
          · exact absurd c99_19 (by decide)
          · -- pc 99 not taken
            refine go_iload (pc' := 104) W17 d0_102 rfl rfl ?_
            refine go_if_eq (pt := 111) (pf := 107) W17 d0_104 (by decide) rfl rfl (fun c104_20 => ?_) (fun c104_20 => ?_)
            · exact absurd c104_20 (by decide)
            · -- pc 104 not taken
              refine go_iconst (pc' := 108) (z := 1) W17 d0_107 rfl rfl ?_
              refine go_goto (pc' := 112) W17 d0_108 (by decide) rfl ?_
              exact go_retI W17 (t := .boolean) rfl (by simp) rfl d0_112 (nb rfl) (nb rfl) (rfl)
        · exact absurd c71_18 (by decide)
      · exact absurd c26_16 (by decide)
    · -- pc 10 not taken
      refine go_iconst (pc' := 14) (z := 1) W d0_13 rfl rfl ?_
      refine go_goto (pc' := 18) W d0_14 (by decide) rfl ?_
      refine go_istoreN (pc' := 19) (l' := #[.val (.int x0), .val (.int x1), .val (.int (0 : Int32)), .val (.int (1 : Int32)), .unset, .unset, .unset, .unset]) W d0_18 rfl rfl ?_
      refine go_iloadN (pc' := 20) W d0_19 rfl rfl ?_
      refine go_callS (kc := K1) (argsL := [(.int (0 : Int32))]) (rest := []) (pc' := 23) W (w1 hw) (w2 hw) (w3 hw) (w4 hw) (rm1 E.l Z a0 hw (0 : Int32) e0 e1 e2 e3 e4 e0 h0 n0 Z0 S0 S1 S2 S3 S4 (by simp [own_mode])) (by decide) pd1 rfl rfl rfl (nb rfl) (nb rfl) (nb rfl) (nb rfl) d0_20 rfl ?_
      rintro _ T21 h21 ⟨rfl, q21⟩ W21
      replace W21 := W21.sub q21
      show Go E _ (Fm E T21 23 #[.val (.int x0), .val (.int x1), .val (.int (0 : Int32)), .val (.int (1 : Int32)), .unset, .unset, .unset, .unset] [(.ref e0)])
      refine go_astore (pc' := 25) (l' := #[.val (.int x0), .val (.int x1), .val (.int (0 : Int32)), .val (.int (1 : Int32)), .val (.ref e0), .unset, .unset, .unset]) W21 d0_23 rfl rfl rfl ?_
      refine go_iloadN (pc' := 26) W21 d0_25 rfl rfl ?_
      refine go_if_eq (pt := 34) (pf := 29) W21 d0_26 (by decide) rfl rfl (fun c26_22 => ?_) (fun c26_22 => ?_)
      · -- pc 26 taken
        refine go_iconst (pc' := 35) (z := 0) W21 d0_34 rfl rfl ?_
        refine go_istore (pc' := 37) (l' := #[.val (.int x0), .val (.int x1), .val (.int (0 : Int32)), .val (.int (1 : Int32)), .val (.ref e0), .val (.int (0 : Int32)), .unset, .unset]) W21 d0_35 rfl rfl ?_
        refine go_goto (pc' := 62) W21 d0_37 (by decide) rfl ?_
        refine go_aload (pc' := 64) W21 d0_62 rfl rfl rfl ?_
        refine go_iloadN (pc' := 65) W21 d0_64 rfl rfl ?_
        refine go_callV (a := e0) (kc := K2) (argsL := [(.int (1 : Int32))]) (rest := []) (pc' := 68) W21 (w8 hw) (w9 hw) (nf_sel W21 (w11 hw)) (w11 hw) (w10 hw) (w6 hw) (w12 hw) X0 (rm2 E.l Z a0 hw e0 (1 : Int32) 0 0 h0 n0 Z0 X0 F0 (Or.inl rfl) (by decide)) (by decide) pd2 rfl rfl rfl (nb rfl) (nb rfl) (nb rfl) (nb rfl) d0_65 rfl ?_
        rintro _ T23 h23 ⟨rfl, q23⟩ W23
        replace W23 := W23.sub q23
        show Go E _ (Fm E T23 68 #[.val (.int x0), .val (.int x1), .val (.int (0 : Int32)), .val (.int (1 : Int32)), .val (.ref e0), .val (.int (0 : Int32)), .unset, .unset] [(.int (0 : Int32))])
        refine go_istore (pc' := 70) (l' := #[.val (.int x0), .val (.int x1), .val (.int (0 : Int32)), .val (.int (1 : Int32)), .val (.ref e0), .val (.int (0 : Int32)), .val (.int (0 : Int32)), .unset]) W23 d0_68 rfl rfl ?_
        refine go_iloadN (pc' := 71) W23 d0_70 rfl rfl ?_
        refine go_if_eq (pt := 88) (pf := 74) W23 d0_71 (by decide) rfl rfl (fun c71_24 => ?_) (fun c71_24 => ?_)
        · exact absurd c71_24 (by decide)
        · -- pc 71 not taken
          refine go_iload (pc' := 76) W23 d0_74 rfl rfl ?_
          refine go_if_eq (pt := 88) (pf := 79) W23 d0_76 (by decide) rfl rfl (fun c76_25 => ?_) (fun c76_25 => ?_)
          · -- pc 76 taken
            refine go_iconst (pc' := 89) (z := 1) W23 d0_88 rfl rfl ?_
            refine go_goto (pc' := 93) W23 d0_89 (by decide) rfl ?_
            refine go_istore (pc' := 95) (l' := #[.val (.int x0), .val (.int x1), .val (.int (0 : Int32)), .val (.int (1 : Int32)), .val (.ref e0), .val (.int (0 : Int32)), .val (.int (0 : Int32)), .val (.int (1 : Int32))]) W23 d0_93 rfl rfl ?_
            refine go_iload (pc' := 97) W23 d0_95 rfl rfl ?_
            refine go_iload (pc' := 99) W23 d0_97 rfl rfl ?_
            refine go_icmp_ne (pt := 111) (pf := 102) W23 d0_99 (by decide) rfl rfl (fun c99_26 => ?_) (fun c99_26 => ?_)
            · exact absurd c99_26 (by decide)
            · -- pc 99 not taken
              refine go_iload (pc' := 104) W23 d0_102 rfl rfl ?_
              refine go_if_eq (pt := 111) (pf := 107) W23 d0_104 (by decide) rfl rfl (fun c104_27 => ?_) (fun c104_27 => ?_)
              · exact absurd c104_27 (by decide)
              · -- pc 104 not taken
                refine go_iconst (pc' := 108) (z := 1) W23 d0_107 rfl rfl ?_
                refine go_goto (pc' := 112) W23 d0_108 (by decide) rfl ?_
                exact go_retI W23 (t := .boolean) rfl (by simp) rfl d0_112 (nb rfl) (nb rfl) (rfl)
          · exact absurd c76_25 (by decide)
      · exact absurd c26_22 (by decide)
  · rw [hk]
    refine go_iloadN (pc' := 8) W d0_7 rfl rfl ?_
    refine go_iconst (pc' := 9) (z := 1) W d0_8 rfl rfl ?_
    refine go_iand (pc' := 10) W d0_9 rfl ?_
    refine go_if_eq (pt := 17) (pf := 13) W d0_10 (by decide) rfl rfl (fun c10_28 => ?_) (fun c10_28 => ?_)
    · -- pc 10 taken
      refine go_iconst (pc' := 18) (z := 0) W d0_17 rfl rfl ?_
      refine go_istoreN (pc' := 19) (l' := #[.val (.int x0), .val (.int x1), .val (.int (1 : Int32)), .val (.int (0 : Int32)), .unset, .unset, .unset, .unset]) W d0_18 rfl rfl ?_
      refine go_iloadN (pc' := 20) W d0_19 rfl rfl ?_
      refine go_callS (kc := K1) (argsL := [(.int (1 : Int32))]) (rest := []) (pc' := 23) W (w1 hw) (w2 hw) (w3 hw) (w4 hw) (rm1 E.l Z a0 hw (1 : Int32) e0 e1 e2 e3 e4 e1 h0 n0 Z0 S0 S1 S2 S3 S4 (by simp [own_mode])) (by decide) pd1 rfl rfl rfl (nb rfl) (nb rfl) (nb rfl) (nb rfl) d0_20 rfl ?_
      rintro _ T29 h29 ⟨rfl, q29⟩ W29
      replace W29 := W29.sub q29
      show Go E _ (Fm E T29 23 #[.val (.int x0), .val (.int x1), .val (.int (1 : Int32)), .val (.int (0 : Int32)), .unset, .unset, .unset, .unset] [(.ref e1)])
      refine go_astore (pc' := 25) (l' := #[.val (.int x0), .val (.int x1), .val (.int (1 : Int32)), .val (.int (0 : Int32)), .val (.ref e1), .unset, .unset, .unset]) W29 d0_23 rfl rfl rfl ?_
      refine go_iloadN (pc' := 26) W29 d0_25 rfl rfl ?_
      refine go_if_eq (pt := 34) (pf := 29) W29 d0_26 (by decide) rfl rfl (fun c26_30 => ?_) (fun c26_30 => ?_)
      · exact absurd c26_30 (by decide)
      · -- pc 26 not taken
        refine go_iloadN (pc' := 30) W29 d0_29 rfl rfl ?_
        refine go_iconst (pc' := 31) (z := 4) W29 d0_30 rfl rfl ?_
        refine go_icmp_ne (pt := 40) (pf := 34) W29 d0_31 (by decide) rfl rfl (fun c31_31 => ?_) (fun c31_31 => ?_)
        · -- pc 31 taken
          refine go_iloadN (pc' := 41) W29 d0_40 rfl rfl ?_
          refine go_iconst (pc' := 42) (z := 2) W29 d0_41 rfl rfl ?_
          refine go_icmp_ne (pt := 59) (pf := 45) W29 d0_42 (by decide) rfl rfl (fun c42_32 => ?_) (fun c42_32 => ?_)
          · -- pc 42 taken
            refine go_iconst (pc' := 60) (z := 1) W29 d0_59 rfl rfl ?_
            refine go_istore (pc' := 62) (l' := #[.val (.int x0), .val (.int x1), .val (.int (1 : Int32)), .val (.int (0 : Int32)), .val (.ref e1), .val (.int (1 : Int32)), .unset, .unset]) W29 d0_60 rfl rfl ?_
            refine go_aload (pc' := 64) W29 d0_62 rfl rfl rfl ?_
            refine go_iloadN (pc' := 65) W29 d0_64 rfl rfl ?_
            refine go_callV (a := e1) (kc := K2) (argsL := [(.int (0 : Int32))]) (rest := []) (pc' := 68) W29 (w8 hw) (w9 hw) (nf_sel W29 (w11 hw)) (w11 hw) (w10 hw) (w6 hw) (w12 hw) X1 (rm2 E.l Z a0 hw e1 (0 : Int32) 1 1 h0 n0 Z0 X1 F1 (Or.inr (Or.inl rfl)) (by decide)) (by decide) pd2 rfl rfl rfl (nb rfl) (nb rfl) (nb rfl) (nb rfl) d0_65 rfl ?_
            rintro _ T33 h33 ⟨rfl, q33⟩ W33
            replace W33 := W33.sub q33
            show Go E _ (Fm E T33 68 #[.val (.int x0), .val (.int x1), .val (.int (1 : Int32)), .val (.int (0 : Int32)), .val (.ref e1), .val (.int (1 : Int32)), .unset, .unset] [(.int (1 : Int32))])
            refine go_istore (pc' := 70) (l' := #[.val (.int x0), .val (.int x1), .val (.int (1 : Int32)), .val (.int (0 : Int32)), .val (.ref e1), .val (.int (1 : Int32)), .val (.int (1 : Int32)), .unset]) W33 d0_68 rfl rfl ?_
            refine go_iloadN (pc' := 71) W33 d0_70 rfl rfl ?_
            refine go_if_eq (pt := 88) (pf := 74) W33 d0_71 (by decide) rfl rfl (fun c71_34 => ?_) (fun c71_34 => ?_)
            · -- pc 71 taken
              refine go_iconst (pc' := 89) (z := 1) W33 d0_88 rfl rfl ?_
              refine go_goto (pc' := 93) W33 d0_89 (by decide) rfl ?_
              refine go_istore (pc' := 95) (l' := #[.val (.int x0), .val (.int x1), .val (.int (1 : Int32)), .val (.int (0 : Int32)), .val (.ref e1), .val (.int (1 : Int32)), .val (.int (1 : Int32)), .val (.int (1 : Int32))]) W33 d0_93 rfl rfl ?_
              refine go_iload (pc' := 97) W33 d0_95 rfl rfl ?_
              refine go_iload (pc' := 99) W33 d0_97 rfl rfl ?_
              refine go_icmp_ne (pt := 111) (pf := 102) W33 d0_99 (by decide) rfl rfl (fun c99_35 => ?_) (fun c99_35 => ?_)
              · exact absurd c99_35 (by decide)
              · -- pc 99 not taken
                refine go_iload (pc' := 104) W33 d0_102 rfl rfl ?_
                refine go_if_eq (pt := 111) (pf := 107) W33 d0_104 (by decide) rfl rfl (fun c104_36 => ?_) (fun c104_36 => ?_)
                · exact absurd c104_36 (by decide)
                · -- pc 104 not taken
                  refine go_iconst (pc' := 108) (z := 1) W33 d0_107 rfl rfl ?_
                  refine go_goto (pc' := 112) W33 d0_108 (by decide) rfl ?_
                  exact go_retI W33 (t := .boolean) rfl (by simp) rfl d0_112 (nb rfl) (nb rfl) (rfl)
            · exact absurd c71_34 (by decide)
          · exact absurd c42_32 (by decide)
        · exact absurd c31_31 (by decide)
    · -- pc 10 not taken
      refine go_iconst (pc' := 14) (z := 1) W d0_13 rfl rfl ?_
      refine go_goto (pc' := 18) W d0_14 (by decide) rfl ?_
      refine go_istoreN (pc' := 19) (l' := #[.val (.int x0), .val (.int x1), .val (.int (1 : Int32)), .val (.int (1 : Int32)), .unset, .unset, .unset, .unset]) W d0_18 rfl rfl ?_
      refine go_iloadN (pc' := 20) W d0_19 rfl rfl ?_
      refine go_callS (kc := K1) (argsL := [(.int (1 : Int32))]) (rest := []) (pc' := 23) W (w1 hw) (w2 hw) (w3 hw) (w4 hw) (rm1 E.l Z a0 hw (1 : Int32) e0 e1 e2 e3 e4 e1 h0 n0 Z0 S0 S1 S2 S3 S4 (by simp [own_mode])) (by decide) pd1 rfl rfl rfl (nb rfl) (nb rfl) (nb rfl) (nb rfl) d0_20 rfl ?_
      rintro _ T37 h37 ⟨rfl, q37⟩ W37
      replace W37 := W37.sub q37
      show Go E _ (Fm E T37 23 #[.val (.int x0), .val (.int x1), .val (.int (1 : Int32)), .val (.int (1 : Int32)), .unset, .unset, .unset, .unset] [(.ref e1)])
      refine go_astore (pc' := 25) (l' := #[.val (.int x0), .val (.int x1), .val (.int (1 : Int32)), .val (.int (1 : Int32)), .val (.ref e1), .unset, .unset, .unset]) W37 d0_23 rfl rfl rfl ?_
      refine go_iloadN (pc' := 26) W37 d0_25 rfl rfl ?_
      refine go_if_eq (pt := 34) (pf := 29) W37 d0_26 (by decide) rfl rfl (fun c26_38 => ?_) (fun c26_38 => ?_)
      · exact absurd c26_38 (by decide)
      · -- pc 26 not taken
        refine go_iloadN (pc' := 30) W37 d0_29 rfl rfl ?_
        refine go_iconst (pc' := 31) (z := 4) W37 d0_30 rfl rfl ?_
        refine go_icmp_ne (pt := 40) (pf := 34) W37 d0_31 (by decide) rfl rfl (fun c31_39 => ?_) (fun c31_39 => ?_)
        · -- pc 31 taken
          refine go_iloadN (pc' := 41) W37 d0_40 rfl rfl ?_
          refine go_iconst (pc' := 42) (z := 2) W37 d0_41 rfl rfl ?_
          refine go_icmp_ne (pt := 59) (pf := 45) W37 d0_42 (by decide) rfl rfl (fun c42_40 => ?_) (fun c42_40 => ?_)
          · -- pc 42 taken
            refine go_iconst (pc' := 60) (z := 1) W37 d0_59 rfl rfl ?_
            refine go_istore (pc' := 62) (l' := #[.val (.int x0), .val (.int x1), .val (.int (1 : Int32)), .val (.int (1 : Int32)), .val (.ref e1), .val (.int (1 : Int32)), .unset, .unset]) W37 d0_60 rfl rfl ?_
            refine go_aload (pc' := 64) W37 d0_62 rfl rfl rfl ?_
            refine go_iloadN (pc' := 65) W37 d0_64 rfl rfl ?_
            refine go_callV (a := e1) (kc := K2) (argsL := [(.int (1 : Int32))]) (rest := []) (pc' := 68) W37 (w8 hw) (w9 hw) (nf_sel W37 (w11 hw)) (w11 hw) (w10 hw) (w6 hw) (w12 hw) X1 (rm2 E.l Z a0 hw e1 (1 : Int32) 1 1 h0 n0 Z0 X1 F1 (Or.inr (Or.inl rfl)) (by decide)) (by decide) pd2 rfl rfl rfl (nb rfl) (nb rfl) (nb rfl) (nb rfl) d0_65 rfl ?_
            rintro _ T41 h41 ⟨rfl, q41⟩ W41
            replace W41 := W41.sub q41
            show Go E _ (Fm E T41 68 #[.val (.int x0), .val (.int x1), .val (.int (1 : Int32)), .val (.int (1 : Int32)), .val (.ref e1), .val (.int (1 : Int32)), .unset, .unset] [(.int (1 : Int32))])
            refine go_istore (pc' := 70) (l' := #[.val (.int x0), .val (.int x1), .val (.int (1 : Int32)), .val (.int (1 : Int32)), .val (.ref e1), .val (.int (1 : Int32)), .val (.int (1 : Int32)), .unset]) W41 d0_68 rfl rfl ?_
            refine go_iloadN (pc' := 71) W41 d0_70 rfl rfl ?_
            refine go_if_eq (pt := 88) (pf := 74) W41 d0_71 (by decide) rfl rfl (fun c71_42 => ?_) (fun c71_42 => ?_)
            · exact absurd c71_42 (by decide)
            · -- pc 71 not taken
              refine go_iload (pc' := 76) W41 d0_74 rfl rfl ?_
              refine go_if_eq (pt := 88) (pf := 79) W41 d0_76 (by decide) rfl rfl (fun c76_43 => ?_) (fun c76_43 => ?_)
              · exact absurd c76_43 (by decide)
              · -- pc 76 not taken
                refine go_aload (pc' := 81) W41 d0_79 rfl rfl rfl ?_
                refine go_iconst (pc' := 82) (z := 1) W41 d0_81 rfl rfl ?_
                refine go_callV (a := e1) (kc := K4) (argsL := [(.int (1 : Int32))]) (rest := []) (pc' := 85) W41 (w26 hw) (w27 hw) (nf_sel W41 (w29 hw)) (w29 hw) (w28 hw) (w6 hw) (w30 hw) X1 (rm4 E.l Z a0 hw e1 1 1 h0 n0 Z0 X1 F1 (Or.inr (Or.inl rfl)) (by decide)) (by decide) pd2 rfl rfl rfl (nb rfl) (nb rfl) (nb rfl) (nb rfl) d0_82 rfl ?_
                rintro _ T44 h44 ⟨rfl, q44⟩ W44
                replace W44 := W44.sub q44
                show Go E _ (Fm E T44 85 #[.val (.int x0), .val (.int x1), .val (.int (1 : Int32)), .val (.int (1 : Int32)), .val (.ref e1), .val (.int (1 : Int32)), .val (.int (1 : Int32)), .unset] [(.int (1 : Int32))])
                refine go_if_eq (pt := 92) (pf := 88) W44 d0_85 (by decide) rfl rfl (fun c85_45 => ?_) (fun c85_45 => ?_)
                · exact absurd c85_45 (by decide)
                · -- pc 85 not taken
                  refine go_iconst (pc' := 89) (z := 1) W44 d0_88 rfl rfl ?_
                  refine go_goto (pc' := 93) W44 d0_89 (by decide) rfl ?_
                  refine go_istore (pc' := 95) (l' := #[.val (.int x0), .val (.int x1), .val (.int (1 : Int32)), .val (.int (1 : Int32)), .val (.ref e1), .val (.int (1 : Int32)), .val (.int (1 : Int32)), .val (.int (1 : Int32))]) W44 d0_93 rfl rfl ?_
                  refine go_iload (pc' := 97) W44 d0_95 rfl rfl ?_
                  refine go_iload (pc' := 99) W44 d0_97 rfl rfl ?_
                  refine go_icmp_ne (pt := 111) (pf := 102) W44 d0_99 (by decide) rfl rfl (fun c99_46 => ?_) (fun c99_46 => ?_)
                  · exact absurd c99_46 (by decide)
                  · -- pc 99 not taken
                    refine go_iload (pc' := 104) W44 d0_102 rfl rfl ?_
                    refine go_if_eq (pt := 111) (pf := 107) W44 d0_104 (by decide) rfl rfl (fun c104_47 => ?_) (fun c104_47 => ?_)
                    · exact absurd c104_47 (by decide)
                    · -- pc 104 not taken
                      refine go_iconst (pc' := 108) (z := 1) W44 d0_107 rfl rfl ?_
                      refine go_goto (pc' := 112) W44 d0_108 (by decide) rfl ?_
                      exact go_retI W44 (t := .boolean) rfl (by simp) rfl d0_112 (nb rfl) (nb rfl) (rfl)
          · exact absurd c42_40 (by decide)
        · exact absurd c31_39 (by decide)
  · rw [hk]
    refine go_iloadN (pc' := 8) W d0_7 rfl rfl ?_
    refine go_iconst (pc' := 9) (z := 1) W d0_8 rfl rfl ?_
    refine go_iand (pc' := 10) W d0_9 rfl ?_
    refine go_if_eq (pt := 17) (pf := 13) W d0_10 (by decide) rfl rfl (fun c10_48 => ?_) (fun c10_48 => ?_)
    · -- pc 10 taken
      refine go_iconst (pc' := 18) (z := 0) W d0_17 rfl rfl ?_
      refine go_istoreN (pc' := 19) (l' := #[.val (.int x0), .val (.int x1), .val (.int (2 : Int32)), .val (.int (0 : Int32)), .unset, .unset, .unset, .unset]) W d0_18 rfl rfl ?_
      refine go_iloadN (pc' := 20) W d0_19 rfl rfl ?_
      refine go_callS (kc := K1) (argsL := [(.int (2 : Int32))]) (rest := []) (pc' := 23) W (w1 hw) (w2 hw) (w3 hw) (w4 hw) (rm1 E.l Z a0 hw (2 : Int32) e0 e1 e2 e3 e4 e2 h0 n0 Z0 S0 S1 S2 S3 S4 (by simp [own_mode])) (by decide) pd1 rfl rfl rfl (nb rfl) (nb rfl) (nb rfl) (nb rfl) d0_20 rfl ?_
      rintro _ T49 h49 ⟨rfl, q49⟩ W49
      replace W49 := W49.sub q49
      show Go E _ (Fm E T49 23 #[.val (.int x0), .val (.int x1), .val (.int (2 : Int32)), .val (.int (0 : Int32)), .unset, .unset, .unset, .unset] [(.ref e2)])
      refine go_astore (pc' := 25) (l' := #[.val (.int x0), .val (.int x1), .val (.int (2 : Int32)), .val (.int (0 : Int32)), .val (.ref e2), .unset, .unset, .unset]) W49 d0_23 rfl rfl rfl ?_
      refine go_iloadN (pc' := 26) W49 d0_25 rfl rfl ?_
      refine go_if_eq (pt := 34) (pf := 29) W49 d0_26 (by decide) rfl rfl (fun c26_50 => ?_) (fun c26_50 => ?_)
      · exact absurd c26_50 (by decide)
      · -- pc 26 not taken
        refine go_iloadN (pc' := 30) W49 d0_29 rfl rfl ?_
        refine go_iconst (pc' := 31) (z := 4) W49 d0_30 rfl rfl ?_
        refine go_icmp_ne (pt := 40) (pf := 34) W49 d0_31 (by decide) rfl rfl (fun c31_51 => ?_) (fun c31_51 => ?_)
        · -- pc 31 taken
          refine go_iloadN (pc' := 41) W49 d0_40 rfl rfl ?_
          refine go_iconst (pc' := 42) (z := 2) W49 d0_41 rfl rfl ?_
          refine go_icmp_ne (pt := 59) (pf := 45) W49 d0_42 (by decide) rfl rfl (fun c42_52 => ?_) (fun c42_52 => ?_)
          · exact absurd c42_52 (by decide)
          · -- pc 42 not taken
            refine go_iloadN (pc' := 46) W49 d0_45 rfl rfl ?_
            refine go_if_ne (pt := 53) (pf := 49) W49 d0_46 (by decide) rfl rfl (fun c46_53 => ?_) (fun c46_53 => ?_)
            · exact absurd c46_53 (by decide)
            · -- pc 46 not taken
              refine go_iconst (pc' := 50) (z := 1) W49 d0_49 rfl rfl ?_
              refine go_goto (pc' := 54) W49 d0_50 (by decide) rfl ?_
              refine go_istore (pc' := 56) (l' := #[.val (.int x0), .val (.int x1), .val (.int (2 : Int32)), .val (.int (0 : Int32)), .val (.ref e2), .val (.int (1 : Int32)), .unset, .unset]) W49 d0_54 rfl rfl ?_
              refine go_goto (pc' := 62) W49 d0_56 (by decide) rfl ?_
              refine go_aload (pc' := 64) W49 d0_62 rfl rfl rfl ?_
              refine go_iloadN (pc' := 65) W49 d0_64 rfl rfl ?_
              refine go_callV (a := e2) (kc := K2) (argsL := [(.int (0 : Int32))]) (rest := []) (pc' := 68) W49 (w8 hw) (w9 hw) (nf_sel W49 (w11 hw)) (w11 hw) (w10 hw) (w6 hw) (w12 hw) X2 (rm2 E.l Z a0 hw e2 (0 : Int32) 2 1 h0 n0 Z0 X2 F2 (Or.inr (Or.inr (Or.inl rfl))) (by decide)) (by decide) pd2 rfl rfl rfl (nb rfl) (nb rfl) (nb rfl) (nb rfl) d0_65 rfl ?_
              rintro _ T54 h54 ⟨rfl, q54⟩ W54
              replace W54 := W54.sub q54
              show Go E _ (Fm E T54 68 #[.val (.int x0), .val (.int x1), .val (.int (2 : Int32)), .val (.int (0 : Int32)), .val (.ref e2), .val (.int (1 : Int32)), .unset, .unset] [(.int (1 : Int32))])
              refine go_istore (pc' := 70) (l' := #[.val (.int x0), .val (.int x1), .val (.int (2 : Int32)), .val (.int (0 : Int32)), .val (.ref e2), .val (.int (1 : Int32)), .val (.int (1 : Int32)), .unset]) W54 d0_68 rfl rfl ?_
              refine go_iloadN (pc' := 71) W54 d0_70 rfl rfl ?_
              refine go_if_eq (pt := 88) (pf := 74) W54 d0_71 (by decide) rfl rfl (fun c71_55 => ?_) (fun c71_55 => ?_)
              · -- pc 71 taken
                refine go_iconst (pc' := 89) (z := 1) W54 d0_88 rfl rfl ?_
                refine go_goto (pc' := 93) W54 d0_89 (by decide) rfl ?_
                refine go_istore (pc' := 95) (l' := #[.val (.int x0), .val (.int x1), .val (.int (2 : Int32)), .val (.int (0 : Int32)), .val (.ref e2), .val (.int (1 : Int32)), .val (.int (1 : Int32)), .val (.int (1 : Int32))]) W54 d0_93 rfl rfl ?_
                refine go_iload (pc' := 97) W54 d0_95 rfl rfl ?_
                refine go_iload (pc' := 99) W54 d0_97 rfl rfl ?_
                refine go_icmp_ne (pt := 111) (pf := 102) W54 d0_99 (by decide) rfl rfl (fun c99_56 => ?_) (fun c99_56 => ?_)
                · exact absurd c99_56 (by decide)
                · -- pc 99 not taken
                  refine go_iload (pc' := 104) W54 d0_102 rfl rfl ?_
                  refine go_if_eq (pt := 111) (pf := 107) W54 d0_104 (by decide) rfl rfl (fun c104_57 => ?_) (fun c104_57 => ?_)
                  · exact absurd c104_57 (by decide)
                  · -- pc 104 not taken
                    refine go_iconst (pc' := 108) (z := 1) W54 d0_107 rfl rfl ?_
                    refine go_goto (pc' := 112) W54 d0_108 (by decide) rfl ?_
                    exact go_retI W54 (t := .boolean) rfl (by simp) rfl d0_112 (nb rfl) (nb rfl) (rfl)
              · exact absurd c71_55 (by decide)
        · exact absurd c31_51 (by decide)
    · -- pc 10 not taken
      refine go_iconst (pc' := 14) (z := 1) W d0_13 rfl rfl ?_
      refine go_goto (pc' := 18) W d0_14 (by decide) rfl ?_
      refine go_istoreN (pc' := 19) (l' := #[.val (.int x0), .val (.int x1), .val (.int (2 : Int32)), .val (.int (1 : Int32)), .unset, .unset, .unset, .unset]) W d0_18 rfl rfl ?_
      refine go_iloadN (pc' := 20) W d0_19 rfl rfl ?_
      refine go_callS (kc := K1) (argsL := [(.int (2 : Int32))]) (rest := []) (pc' := 23) W (w1 hw) (w2 hw) (w3 hw) (w4 hw) (rm1 E.l Z a0 hw (2 : Int32) e0 e1 e2 e3 e4 e2 h0 n0 Z0 S0 S1 S2 S3 S4 (by simp [own_mode])) (by decide) pd1 rfl rfl rfl (nb rfl) (nb rfl) (nb rfl) (nb rfl) d0_20 rfl ?_
      rintro _ T58 h58 ⟨rfl, q58⟩ W58
      replace W58 := W58.sub q58
      show Go E _ (Fm E T58 23 #[.val (.int x0), .val (.int x1), .val (.int (2 : Int32)), .val (.int (1 : Int32)), .unset, .unset, .unset, .unset] [(.ref e2)])
      refine go_astore (pc' := 25) (l' := #[.val (.int x0), .val (.int x1), .val (.int (2 : Int32)), .val (.int (1 : Int32)), .val (.ref e2), .unset, .unset, .unset]) W58 d0_23 rfl rfl rfl ?_
      refine go_iloadN (pc' := 26) W58 d0_25 rfl rfl ?_
      refine go_if_eq (pt := 34) (pf := 29) W58 d0_26 (by decide) rfl rfl (fun c26_59 => ?_) (fun c26_59 => ?_)
      · exact absurd c26_59 (by decide)
      · -- pc 26 not taken
        refine go_iloadN (pc' := 30) W58 d0_29 rfl rfl ?_
        refine go_iconst (pc' := 31) (z := 4) W58 d0_30 rfl rfl ?_
        refine go_icmp_ne (pt := 40) (pf := 34) W58 d0_31 (by decide) rfl rfl (fun c31_60 => ?_) (fun c31_60 => ?_)
        · -- pc 31 taken
          refine go_iloadN (pc' := 41) W58 d0_40 rfl rfl ?_
          refine go_iconst (pc' := 42) (z := 2) W58 d0_41 rfl rfl ?_
          refine go_icmp_ne (pt := 59) (pf := 45) W58 d0_42 (by decide) rfl rfl (fun c42_61 => ?_) (fun c42_61 => ?_)
          · exact absurd c42_61 (by decide)
          · -- pc 42 not taken
            refine go_iloadN (pc' := 46) W58 d0_45 rfl rfl ?_
            refine go_if_ne (pt := 53) (pf := 49) W58 d0_46 (by decide) rfl rfl (fun c46_62 => ?_) (fun c46_62 => ?_)
            · -- pc 46 taken
              refine go_iconst (pc' := 54) (z := 0) W58 d0_53 rfl rfl ?_
              refine go_istore (pc' := 56) (l' := #[.val (.int x0), .val (.int x1), .val (.int (2 : Int32)), .val (.int (1 : Int32)), .val (.ref e2), .val (.int (0 : Int32)), .unset, .unset]) W58 d0_54 rfl rfl ?_
              refine go_goto (pc' := 62) W58 d0_56 (by decide) rfl ?_
              refine go_aload (pc' := 64) W58 d0_62 rfl rfl rfl ?_
              refine go_iloadN (pc' := 65) W58 d0_64 rfl rfl ?_
              refine go_callV (a := e2) (kc := K2) (argsL := [(.int (1 : Int32))]) (rest := []) (pc' := 68) W58 (w8 hw) (w9 hw) (nf_sel W58 (w11 hw)) (w11 hw) (w10 hw) (w6 hw) (w12 hw) X2 (rm2 E.l Z a0 hw e2 (1 : Int32) 2 0 h0 n0 Z0 X2 F2 (Or.inr (Or.inr (Or.inl rfl))) (by decide)) (by decide) pd2 rfl rfl rfl (nb rfl) (nb rfl) (nb rfl) (nb rfl) d0_65 rfl ?_
              rintro _ T63 h63 ⟨rfl, q63⟩ W63
              replace W63 := W63.sub q63
              show Go E _ (Fm E T63 68 #[.val (.int x0), .val (.int x1), .val (.int (2 : Int32)), .val (.int (1 : Int32)), .val (.ref e2), .val (.int (0 : Int32)), .unset, .unset] [(.int (0 : Int32))])
              refine go_istore (pc' := 70) (l' := #[.val (.int x0), .val (.int x1), .val (.int (2 : Int32)), .val (.int (1 : Int32)), .val (.ref e2), .val (.int (0 : Int32)), .val (.int (0 : Int32)), .unset]) W63 d0_68 rfl rfl ?_
              refine go_iloadN (pc' := 71) W63 d0_70 rfl rfl ?_
              refine go_if_eq (pt := 88) (pf := 74) W63 d0_71 (by decide) rfl rfl (fun c71_64 => ?_) (fun c71_64 => ?_)
              · exact absurd c71_64 (by decide)
              · -- pc 71 not taken
                refine go_iload (pc' := 76) W63 d0_74 rfl rfl ?_
                refine go_if_eq (pt := 88) (pf := 79) W63 d0_76 (by decide) rfl rfl (fun c76_65 => ?_) (fun c76_65 => ?_)
                · -- pc 76 taken
                  refine go_iconst (pc' := 89) (z := 1) W63 d0_88 rfl rfl ?_
                  refine go_goto (pc' := 93) W63 d0_89 (by decide) rfl ?_
                  refine go_istore (pc' := 95) (l' := #[.val (.int x0), .val (.int x1), .val (.int (2 : Int32)), .val (.int (1 : Int32)), .val (.ref e2), .val (.int (0 : Int32)), .val (.int (0 : Int32)), .val (.int (1 : Int32))]) W63 d0_93 rfl rfl ?_
                  refine go_iload (pc' := 97) W63 d0_95 rfl rfl ?_
                  refine go_iload (pc' := 99) W63 d0_97 rfl rfl ?_
                  refine go_icmp_ne (pt := 111) (pf := 102) W63 d0_99 (by decide) rfl rfl (fun c99_66 => ?_) (fun c99_66 => ?_)
                  · exact absurd c99_66 (by decide)
                  · -- pc 99 not taken
                    refine go_iload (pc' := 104) W63 d0_102 rfl rfl ?_
                    refine go_if_eq (pt := 111) (pf := 107) W63 d0_104 (by decide) rfl rfl (fun c104_67 => ?_) (fun c104_67 => ?_)
                    · exact absurd c104_67 (by decide)
                    · -- pc 104 not taken
                      refine go_iconst (pc' := 108) (z := 1) W63 d0_107 rfl rfl ?_
                      refine go_goto (pc' := 112) W63 d0_108 (by decide) rfl ?_
                      exact go_retI W63 (t := .boolean) rfl (by simp) rfl d0_112 (nb rfl) (nb rfl) (rfl)
                · exact absurd c76_65 (by decide)
            · exact absurd c46_62 (by decide)
        · exact absurd c31_60 (by decide)
  · rw [hk]
    refine go_iloadN (pc' := 8) W d0_7 rfl rfl ?_
    refine go_iconst (pc' := 9) (z := 1) W d0_8 rfl rfl ?_
    refine go_iand (pc' := 10) W d0_9 rfl ?_
    refine go_if_eq (pt := 17) (pf := 13) W d0_10 (by decide) rfl rfl (fun c10_68 => ?_) (fun c10_68 => ?_)
    · -- pc 10 taken
      refine go_iconst (pc' := 18) (z := 0) W d0_17 rfl rfl ?_
      refine go_istoreN (pc' := 19) (l' := #[.val (.int x0), .val (.int x1), .val (.int (3 : Int32)), .val (.int (0 : Int32)), .unset, .unset, .unset, .unset]) W d0_18 rfl rfl ?_
      refine go_iloadN (pc' := 20) W d0_19 rfl rfl ?_
      refine go_callS (kc := K1) (argsL := [(.int (3 : Int32))]) (rest := []) (pc' := 23) W (w1 hw) (w2 hw) (w3 hw) (w4 hw) (rm1 E.l Z a0 hw (3 : Int32) e0 e1 e2 e3 e4 e3 h0 n0 Z0 S0 S1 S2 S3 S4 (by simp [own_mode])) (by decide) pd1 rfl rfl rfl (nb rfl) (nb rfl) (nb rfl) (nb rfl) d0_20 rfl ?_
      rintro _ T69 h69 ⟨rfl, q69⟩ W69
      replace W69 := W69.sub q69
      show Go E _ (Fm E T69 23 #[.val (.int x0), .val (.int x1), .val (.int (3 : Int32)), .val (.int (0 : Int32)), .unset, .unset, .unset, .unset] [(.ref e3)])
      refine go_astore (pc' := 25) (l' := #[.val (.int x0), .val (.int x1), .val (.int (3 : Int32)), .val (.int (0 : Int32)), .val (.ref e3), .unset, .unset, .unset]) W69 d0_23 rfl rfl rfl ?_
      refine go_iloadN (pc' := 26) W69 d0_25 rfl rfl ?_
      refine go_if_eq (pt := 34) (pf := 29) W69 d0_26 (by decide) rfl rfl (fun c26_70 => ?_) (fun c26_70 => ?_)
      · exact absurd c26_70 (by decide)
      · -- pc 26 not taken
        refine go_iloadN (pc' := 30) W69 d0_29 rfl rfl ?_
        refine go_iconst (pc' := 31) (z := 4) W69 d0_30 rfl rfl ?_
        refine go_icmp_ne (pt := 40) (pf := 34) W69 d0_31 (by decide) rfl rfl (fun c31_71 => ?_) (fun c31_71 => ?_)
        · -- pc 31 taken
          refine go_iloadN (pc' := 41) W69 d0_40 rfl rfl ?_
          refine go_iconst (pc' := 42) (z := 2) W69 d0_41 rfl rfl ?_
          refine go_icmp_ne (pt := 59) (pf := 45) W69 d0_42 (by decide) rfl rfl (fun c42_72 => ?_) (fun c42_72 => ?_)
          · -- pc 42 taken
            refine go_iconst (pc' := 60) (z := 1) W69 d0_59 rfl rfl ?_
            refine go_istore (pc' := 62) (l' := #[.val (.int x0), .val (.int x1), .val (.int (3 : Int32)), .val (.int (0 : Int32)), .val (.ref e3), .val (.int (1 : Int32)), .unset, .unset]) W69 d0_60 rfl rfl ?_
            refine go_aload (pc' := 64) W69 d0_62 rfl rfl rfl ?_
            refine go_iloadN (pc' := 65) W69 d0_64 rfl rfl ?_
            refine go_callV (a := e3) (kc := K2) (argsL := [(.int (0 : Int32))]) (rest := []) (pc' := 68) W69 (w8 hw) (w9 hw) (nf_sel W69 (w11 hw)) (w11 hw) (w10 hw) (w6 hw) (w12 hw) X3 (rm2 E.l Z a0 hw e3 (0 : Int32) 3 1 h0 n0 Z0 X3 F3 (Or.inr (Or.inr (Or.inr (Or.inl rfl)))) (by decide)) (by decide) pd2 rfl rfl rfl (nb rfl) (nb rfl) (nb rfl) (nb rfl) d0_65 rfl ?_
            rintro _ T73 h73 ⟨rfl, q73⟩ W73
            replace W73 := W73.sub q73
            show Go E _ (Fm E T73 68 #[.val (.int x0), .val (.int x1), .val (.int (3 : Int32)), .val (.int (0 : Int32)), .val (.ref e3), .val (.int (1 : Int32)), .unset, .unset] [(.int (1 : Int32))])
            refine go_istore (pc' := 70) (l' := #[.val (.int x0), .val (.int x1), .val (.int (3 : Int32)), .val (.int (0 : Int32)), .val (.ref e3), .val (.int (1 : Int32)), .val (.int (1 : Int32)), .unset]) W73 d0_68 rfl rfl ?_
            refine go_iloadN (pc' := 71) W73 d0_70 rfl rfl ?_
            refine go_if_eq (pt := 88) (pf := 74) W73 d0_71 (by decide) rfl rfl (fun c71_74 => ?_) (fun c71_74 => ?_)
            · -- pc 71 taken
              refine go_iconst (pc' := 89) (z := 1) W73 d0_88 rfl rfl ?_
              refine go_goto (pc' := 93) W73 d0_89 (by decide) rfl ?_
              refine go_istore (pc' := 95) (l' := #[.val (.int x0), .val (.int x1), .val (.int (3 : Int32)), .val (.int (0 : Int32)), .val (.ref e3), .val (.int (1 : Int32)), .val (.int (1 : Int32)), .val (.int (1 : Int32))]) W73 d0_93 rfl rfl ?_
              refine go_iload (pc' := 97) W73 d0_95 rfl rfl ?_
              refine go_iload (pc' := 99) W73 d0_97 rfl rfl ?_
              refine go_icmp_ne (pt := 111) (pf := 102) W73 d0_99 (by decide) rfl rfl (fun c99_75 => ?_) (fun c99_75 => ?_)
              · exact absurd c99_75 (by decide)
              · -- pc 99 not taken
                refine go_iload (pc' := 104) W73 d0_102 rfl rfl ?_
                refine go_if_eq (pt := 111) (pf := 107) W73 d0_104 (by decide) rfl rfl (fun c104_76 => ?_) (fun c104_76 => ?_)
                · exact absurd c104_76 (by decide)
                · -- pc 104 not taken
                  refine go_iconst (pc' := 108) (z := 1) W73 d0_107 rfl rfl ?_
                  refine go_goto (pc' := 112) W73 d0_108 (by decide) rfl ?_
                  exact go_retI W73 (t := .boolean) rfl (by simp) rfl d0_112 (nb rfl) (nb rfl) (rfl)
            · exact absurd c71_74 (by decide)
          · exact absurd c42_72 (by decide)
        · exact absurd c31_71 (by decide)
    · -- pc 10 not taken
      refine go_iconst (pc' := 14) (z := 1) W d0_13 rfl rfl ?_
      refine go_goto (pc' := 18) W d0_14 (by decide) rfl ?_
      refine go_istoreN (pc' := 19) (l' := #[.val (.int x0), .val (.int x1), .val (.int (3 : Int32)), .val (.int (1 : Int32)), .unset, .unset, .unset, .unset]) W d0_18 rfl rfl ?_
      refine go_iloadN (pc' := 20) W d0_19 rfl rfl ?_
      refine go_callS (kc := K1) (argsL := [(.int (3 : Int32))]) (rest := []) (pc' := 23) W (w1 hw) (w2 hw) (w3 hw) (w4 hw) (rm1 E.l Z a0 hw (3 : Int32) e0 e1 e2 e3 e4 e3 h0 n0 Z0 S0 S1 S2 S3 S4 (by simp [own_mode])) (by decide) pd1 rfl rfl rfl (nb rfl) (nb rfl) (nb rfl) (nb rfl) d0_20 rfl ?_
      rintro _ T77 h77 ⟨rfl, q77⟩ W77
      replace W77 := W77.sub q77
      show Go E _ (Fm E T77 23 #[.val (.int x0), .val (.int x1), .val (.int (3 : Int32)), .val (.int (1 : Int32)), .unset, .unset, .unset, .unset] [(.ref e3)])
      refine go_astore (pc' := 25) (l' := #[.val (.int x0), .val (.int x1), .val (.int (3 : Int32)), .val (.int (1 : Int32)), .val (.ref e3), .unset, .unset, .unset]) W77 d0_23 rfl rfl rfl ?_
      refine go_iloadN (pc' := 26) W77 d0_25 rfl rfl ?_
      refine go_if_eq (pt := 34) (pf := 29) W77 d0_26 (by decide) rfl rfl (fun c26_78 => ?_) (fun c26_78 => ?_)
      · exact absurd c26_78 (by decide)
      · -- pc 26 not taken
        refine go_iloadN (pc' := 30) W77 d0_29 rfl rfl ?_
        refine go_iconst (pc' := 31) (z := 4) W77 d0_30 rfl rfl ?_
        refine go_icmp_ne (pt := 40) (pf := 34) W77 d0_31 (by decide) rfl rfl (fun c31_79 => ?_) (fun c31_79 => ?_)
        · -- pc 31 taken
          refine go_iloadN (pc' := 41) W77 d0_40 rfl rfl ?_
          refine go_iconst (pc' := 42) (z := 2) W77 d0_41 rfl rfl ?_
          refine go_icmp_ne (pt := 59) (pf := 45) W77 d0_42 (by decide) rfl rfl (fun c42_80 => ?_) (fun c42_80 => ?_)
          · -- pc 42 taken
            refine go_iconst (pc' := 60) (z := 1) W77 d0_59 rfl rfl ?_
            refine go_istore (pc' := 62) (l' := #[.val (.int x0), .val (.int x1), .val (.int (3 : Int32)), .val (.int (1 : Int32)), .val (.ref e3), .val (.int (1 : Int32)), .unset, .unset]) W77 d0_60 rfl rfl ?_
            refine go_aload (pc' := 64) W77 d0_62 rfl rfl rfl ?_
            refine go_iloadN (pc' := 65) W77 d0_64 rfl rfl ?_
            refine go_callV (a := e3) (kc := K2) (argsL := [(.int (1 : Int32))]) (rest := []) (pc' := 68) W77 (w8 hw) (w9 hw) (nf_sel W77 (w11 hw)) (w11 hw) (w10 hw) (w6 hw) (w12 hw) X3 (rm2 E.l Z a0 hw e3 (1 : Int32) 3 1 h0 n0 Z0 X3 F3 (Or.inr (Or.inr (Or.inr (Or.inl rfl)))) (by decide)) (by decide) pd2 rfl rfl rfl (nb rfl) (nb rfl) (nb rfl) (nb rfl) d0_65 rfl ?_
            rintro _ T81 h81 ⟨rfl, q81⟩ W81
            replace W81 := W81.sub q81
            show Go E _ (Fm E T81 68 #[.val (.int x0), .val (.int x1), .val (.int (3 : Int32)), .val (.int (1 : Int32)), .val (.ref e3), .val (.int (1 : Int32)), .unset, .unset] [(.int (1 : Int32))])
            refine go_istore (pc' := 70) (l' := #[.val (.int x0), .val (.int x1), .val (.int (3 : Int32)), .val (.int (1 : Int32)), .val (.ref e3), .val (.int (1 : Int32)), .val (.int (1 : Int32)), .unset]) W81 d0_68 rfl rfl ?_
            refine go_iloadN (pc' := 71) W81 d0_70 rfl rfl ?_
            refine go_if_eq (pt := 88) (pf := 74) W81 d0_71 (by decide) rfl rfl (fun c71_82 => ?_) (fun c71_82 => ?_)
            · exact absurd c71_82 (by decide)
            · -- pc 71 not taken
              refine go_iload (pc' := 76) W81 d0_74 rfl rfl ?_
              refine go_if_eq (pt := 88) (pf := 79) W81 d0_76 (by decide) rfl rfl (fun c76_83 => ?_) (fun c76_83 => ?_)
              · exact absurd c76_83 (by decide)
              · -- pc 76 not taken
                refine go_aload (pc' := 81) W81 d0_79 rfl rfl rfl ?_
                refine go_iconst (pc' := 82) (z := 1) W81 d0_81 rfl rfl ?_
                refine go_callV (a := e3) (kc := K4) (argsL := [(.int (1 : Int32))]) (rest := []) (pc' := 85) W81 (w26 hw) (w27 hw) (nf_sel W81 (w29 hw)) (w29 hw) (w28 hw) (w6 hw) (w30 hw) X3 (rm4 E.l Z a0 hw e3 3 1 h0 n0 Z0 X3 F3 (Or.inr (Or.inr (Or.inr (Or.inl rfl)))) (by decide)) (by decide) pd2 rfl rfl rfl (nb rfl) (nb rfl) (nb rfl) (nb rfl) d0_82 rfl ?_
                rintro _ T84 h84 ⟨rfl, q84⟩ W84
                replace W84 := W84.sub q84
                show Go E _ (Fm E T84 85 #[.val (.int x0), .val (.int x1), .val (.int (3 : Int32)), .val (.int (1 : Int32)), .val (.ref e3), .val (.int (1 : Int32)), .val (.int (1 : Int32)), .unset] [(.int (1 : Int32))])
                refine go_if_eq (pt := 92) (pf := 88) W84 d0_85 (by decide) rfl rfl (fun c85_85 => ?_) (fun c85_85 => ?_)
                · exact absurd c85_85 (by decide)
                · -- pc 85 not taken
                  refine go_iconst (pc' := 89) (z := 1) W84 d0_88 rfl rfl ?_
                  refine go_goto (pc' := 93) W84 d0_89 (by decide) rfl ?_
                  refine go_istore (pc' := 95) (l' := #[.val (.int x0), .val (.int x1), .val (.int (3 : Int32)), .val (.int (1 : Int32)), .val (.ref e3), .val (.int (1 : Int32)), .val (.int (1 : Int32)), .val (.int (1 : Int32))]) W84 d0_93 rfl rfl ?_
                  refine go_iload (pc' := 97) W84 d0_95 rfl rfl ?_
                  refine go_iload (pc' := 99) W84 d0_97 rfl rfl ?_
                  refine go_icmp_ne (pt := 111) (pf := 102) W84 d0_99 (by decide) rfl rfl (fun c99_86 => ?_) (fun c99_86 => ?_)
                  · exact absurd c99_86 (by decide)
                  · -- pc 99 not taken
                    refine go_iload (pc' := 104) W84 d0_102 rfl rfl ?_
                    refine go_if_eq (pt := 111) (pf := 107) W84 d0_104 (by decide) rfl rfl (fun c104_87 => ?_) (fun c104_87 => ?_)
                    · exact absurd c104_87 (by decide)
                    · -- pc 104 not taken
                      refine go_iconst (pc' := 108) (z := 1) W84 d0_107 rfl rfl ?_
                      refine go_goto (pc' := 112) W84 d0_108 (by decide) rfl ?_
                      exact go_retI W84 (t := .boolean) rfl (by simp) rfl d0_112 (nb rfl) (nb rfl) (rfl)
          · exact absurd c42_80 (by decide)
        · exact absurd c31_79 (by decide)
  · rw [hk]
    refine go_iloadN (pc' := 8) W d0_7 rfl rfl ?_
    refine go_iconst (pc' := 9) (z := 1) W d0_8 rfl rfl ?_
    refine go_iand (pc' := 10) W d0_9 rfl ?_
    refine go_if_eq (pt := 17) (pf := 13) W d0_10 (by decide) rfl rfl (fun c10_88 => ?_) (fun c10_88 => ?_)
    · -- pc 10 taken
      refine go_iconst (pc' := 18) (z := 0) W d0_17 rfl rfl ?_
      refine go_istoreN (pc' := 19) (l' := #[.val (.int x0), .val (.int x1), .val (.int (4 : Int32)), .val (.int (0 : Int32)), .unset, .unset, .unset, .unset]) W d0_18 rfl rfl ?_
      refine go_iloadN (pc' := 20) W d0_19 rfl rfl ?_
      refine go_callS (kc := K1) (argsL := [(.int (4 : Int32))]) (rest := []) (pc' := 23) W (w1 hw) (w2 hw) (w3 hw) (w4 hw) (rm1 E.l Z a0 hw (4 : Int32) e0 e1 e2 e3 e4 e4 h0 n0 Z0 S0 S1 S2 S3 S4 (by simp [own_mode])) (by decide) pd1 rfl rfl rfl (nb rfl) (nb rfl) (nb rfl) (nb rfl) d0_20 rfl ?_
      rintro _ T89 h89 ⟨rfl, q89⟩ W89
      replace W89 := W89.sub q89
      show Go E _ (Fm E T89 23 #[.val (.int x0), .val (.int x1), .val (.int (4 : Int32)), .val (.int (0 : Int32)), .unset, .unset, .unset, .unset] [(.ref e4)])
      refine go_astore (pc' := 25) (l' := #[.val (.int x0), .val (.int x1), .val (.int (4 : Int32)), .val (.int (0 : Int32)), .val (.ref e4), .unset, .unset, .unset]) W89 d0_23 rfl rfl rfl ?_
      refine go_iloadN (pc' := 26) W89 d0_25 rfl rfl ?_
      refine go_if_eq (pt := 34) (pf := 29) W89 d0_26 (by decide) rfl rfl (fun c26_90 => ?_) (fun c26_90 => ?_)
      · exact absurd c26_90 (by decide)
      · -- pc 26 not taken
        refine go_iloadN (pc' := 30) W89 d0_29 rfl rfl ?_
        refine go_iconst (pc' := 31) (z := 4) W89 d0_30 rfl rfl ?_
        refine go_icmp_ne (pt := 40) (pf := 34) W89 d0_31 (by decide) rfl rfl (fun c31_91 => ?_) (fun c31_91 => ?_)
        · exact absurd c31_91 (by decide)
        · -- pc 31 not taken
          refine go_iconst (pc' := 35) (z := 0) W89 d0_34 rfl rfl ?_
          refine go_istore (pc' := 37) (l' := #[.val (.int x0), .val (.int x1), .val (.int (4 : Int32)), .val (.int (0 : Int32)), .val (.ref e4), .val (.int (0 : Int32)), .unset, .unset]) W89 d0_35 rfl rfl ?_
          refine go_goto (pc' := 62) W89 d0_37 (by decide) rfl ?_
          refine go_aload (pc' := 64) W89 d0_62 rfl rfl rfl ?_
          refine go_iloadN (pc' := 65) W89 d0_64 rfl rfl ?_
          refine go_callV (a := e4) (kc := K2) (argsL := [(.int (0 : Int32))]) (rest := []) (pc' := 68) W89 (w8 hw) (w9 hw) (nf_sel W89 (w11 hw)) (w11 hw) (w10 hw) (w6 hw) (w12 hw) X4 (rm2 E.l Z a0 hw e4 (0 : Int32) 4 0 h0 n0 Z0 X4 F4 (Or.inr (Or.inr (Or.inr (Or.inr rfl)))) (by decide)) (by decide) pd2 rfl rfl rfl (nb rfl) (nb rfl) (nb rfl) (nb rfl) d0_65 rfl ?_
          rintro _ T92 h92 ⟨rfl, q92⟩ W92
          replace W92 := W92.sub q92
          show Go E _ (Fm E T92 68 #[.val (.int x0), .val (.int x1), .val (.int (4 : Int32)), .val (.int (0 : Int32)), .val (.ref e4), .val (.int (0 : Int32)), .unset, .unset] [(.int (0 : Int32))])
          refine go_istore (pc' := 70) (l' := #[.val (.int x0), .val (.int x1), .val (.int (4 : Int32)), .val (.int (0 : Int32)), .val (.ref e4), .val (.int (0 : Int32)), .val (.int (0 : Int32)), .unset]) W92 d0_68 rfl rfl ?_
          refine go_iloadN (pc' := 71) W92 d0_70 rfl rfl ?_
          refine go_if_eq (pt := 88) (pf := 74) W92 d0_71 (by decide) rfl rfl (fun c71_93 => ?_) (fun c71_93 => ?_)
          · -- pc 71 taken
            refine go_iconst (pc' := 89) (z := 1) W92 d0_88 rfl rfl ?_
            refine go_goto (pc' := 93) W92 d0_89 (by decide) rfl ?_
            refine go_istore (pc' := 95) (l' := #[.val (.int x0), .val (.int x1), .val (.int (4 : Int32)), .val (.int (0 : Int32)), .val (.ref e4), .val (.int (0 : Int32)), .val (.int (0 : Int32)), .val (.int (1 : Int32))]) W92 d0_93 rfl rfl ?_
            refine go_iload (pc' := 97) W92 d0_95 rfl rfl ?_
            refine go_iload (pc' := 99) W92 d0_97 rfl rfl ?_
            refine go_icmp_ne (pt := 111) (pf := 102) W92 d0_99 (by decide) rfl rfl (fun c99_94 => ?_) (fun c99_94 => ?_)
            · exact absurd c99_94 (by decide)
            · -- pc 99 not taken
              refine go_iload (pc' := 104) W92 d0_102 rfl rfl ?_
              refine go_if_eq (pt := 111) (pf := 107) W92 d0_104 (by decide) rfl rfl (fun c104_95 => ?_) (fun c104_95 => ?_)
              · exact absurd c104_95 (by decide)
              · -- pc 104 not taken
                refine go_iconst (pc' := 108) (z := 1) W92 d0_107 rfl rfl ?_
                refine go_goto (pc' := 112) W92 d0_108 (by decide) rfl ?_
                exact go_retI W92 (t := .boolean) rfl (by simp) rfl d0_112 (nb rfl) (nb rfl) (rfl)
          · exact absurd c71_93 (by decide)
    · -- pc 10 not taken
      refine go_iconst (pc' := 14) (z := 1) W d0_13 rfl rfl ?_
      refine go_goto (pc' := 18) W d0_14 (by decide) rfl ?_
      refine go_istoreN (pc' := 19) (l' := #[.val (.int x0), .val (.int x1), .val (.int (4 : Int32)), .val (.int (1 : Int32)), .unset, .unset, .unset, .unset]) W d0_18 rfl rfl ?_
      refine go_iloadN (pc' := 20) W d0_19 rfl rfl ?_
      refine go_callS (kc := K1) (argsL := [(.int (4 : Int32))]) (rest := []) (pc' := 23) W (w1 hw) (w2 hw) (w3 hw) (w4 hw) (rm1 E.l Z a0 hw (4 : Int32) e0 e1 e2 e3 e4 e4 h0 n0 Z0 S0 S1 S2 S3 S4 (by simp [own_mode])) (by decide) pd1 rfl rfl rfl (nb rfl) (nb rfl) (nb rfl) (nb rfl) d0_20 rfl ?_
      rintro _ T96 h96 ⟨rfl, q96⟩ W96
      replace W96 := W96.sub q96
      show Go E _ (Fm E T96 23 #[.val (.int x0), .val (.int x1), .val (.int (4 : Int32)), .val (.int (1 : Int32)), .unset, .unset, .unset, .unset] [(.ref e4)])
      refine go_astore (pc' := 25) (l' := #[.val (.int x0), .val (.int x1), .val (.int (4 : Int32)), .val (.int (1 : Int32)), .val (.ref e4), .unset, .unset, .unset]) W96 d0_23 rfl rfl rfl ?_
      refine go_iloadN (pc' := 26) W96 d0_25 rfl rfl ?_
      refine go_if_eq (pt := 34) (pf := 29) W96 d0_26 (by decide) rfl rfl (fun c26_97 => ?_) (fun c26_97 => ?_)
      · exact absurd c26_97 (by decide)
      · -- pc 26 not taken
        refine go_iloadN (pc' := 30) W96 d0_29 rfl rfl ?_
        refine go_iconst (pc' := 31) (z := 4) W96 d0_30 rfl rfl ?_
        refine go_icmp_ne (pt := 40) (pf := 34) W96 d0_31 (by decide) rfl rfl (fun c31_98 => ?_) (fun c31_98 => ?_)
        · exact absurd c31_98 (by decide)
        · -- pc 31 not taken
          refine go_iconst (pc' := 35) (z := 0) W96 d0_34 rfl rfl ?_
          refine go_istore (pc' := 37) (l' := #[.val (.int x0), .val (.int x1), .val (.int (4 : Int32)), .val (.int (1 : Int32)), .val (.ref e4), .val (.int (0 : Int32)), .unset, .unset]) W96 d0_35 rfl rfl ?_
          refine go_goto (pc' := 62) W96 d0_37 (by decide) rfl ?_
          refine go_aload (pc' := 64) W96 d0_62 rfl rfl rfl ?_
          refine go_iloadN (pc' := 65) W96 d0_64 rfl rfl ?_
          refine go_callV (a := e4) (kc := K2) (argsL := [(.int (1 : Int32))]) (rest := []) (pc' := 68) W96 (w8 hw) (w9 hw) (nf_sel W96 (w11 hw)) (w11 hw) (w10 hw) (w6 hw) (w12 hw) X4 (rm2 E.l Z a0 hw e4 (1 : Int32) 4 0 h0 n0 Z0 X4 F4 (Or.inr (Or.inr (Or.inr (Or.inr rfl)))) (by decide)) (by decide) pd2 rfl rfl rfl (nb rfl) (nb rfl) (nb rfl) (nb rfl) d0_65 rfl ?_
          rintro _ T99 h99 ⟨rfl, q99⟩ W99
          replace W99 := W99.sub q99
          show Go E _ (Fm E T99 68 #[.val (.int x0), .val (.int x1), .val (.int (4 : Int32)), .val (.int (1 : Int32)), .val (.ref e4), .val (.int (0 : Int32)), .unset, .unset] [(.int (0 : Int32))])
          refine go_istore (pc' := 70) (l' := #[.val (.int x0), .val (.int x1), .val (.int (4 : Int32)), .val (.int (1 : Int32)), .val (.ref e4), .val (.int (0 : Int32)), .val (.int (0 : Int32)), .unset]) W99 d0_68 rfl rfl ?_
          refine go_iloadN (pc' := 71) W99 d0_70 rfl rfl ?_
          refine go_if_eq (pt := 88) (pf := 74) W99 d0_71 (by decide) rfl rfl (fun c71_100 => ?_) (fun c71_100 => ?_)
          · exact absurd c71_100 (by decide)
          · -- pc 71 not taken
            refine go_iload (pc' := 76) W99 d0_74 rfl rfl ?_
            refine go_if_eq (pt := 88) (pf := 79) W99 d0_76 (by decide) rfl rfl (fun c76_101 => ?_) (fun c76_101 => ?_)
            · -- pc 76 taken
              refine go_iconst (pc' := 89) (z := 1) W99 d0_88 rfl rfl ?_
              refine go_goto (pc' := 93) W99 d0_89 (by decide) rfl ?_
              refine go_istore (pc' := 95) (l' := #[.val (.int x0), .val (.int x1), .val (.int (4 : Int32)), .val (.int (1 : Int32)), .val (.ref e4), .val (.int (0 : Int32)), .val (.int (0 : Int32)), .val (.int (1 : Int32))]) W99 d0_93 rfl rfl ?_
              refine go_iload (pc' := 97) W99 d0_95 rfl rfl ?_
              refine go_iload (pc' := 99) W99 d0_97 rfl rfl ?_
              refine go_icmp_ne (pt := 111) (pf := 102) W99 d0_99 (by decide) rfl rfl (fun c99_102 => ?_) (fun c99_102 => ?_)
              · exact absurd c99_102 (by decide)
              · -- pc 99 not taken
                refine go_iload (pc' := 104) W99 d0_102 rfl rfl ?_
                refine go_if_eq (pt := 111) (pf := 107) W99 d0_104 (by decide) rfl rfl (fun c104_103 => ?_) (fun c104_103 => ?_)
                · exact absurd c104_103 (by decide)
                · -- pc 104 not taken
                  refine go_iconst (pc' := 108) (z := 1) W99 d0_107 rfl rfl ?_
                  refine go_goto (pc' := 112) W99 d0_108 (by decide) rfl ?_
                  exact go_retI W99 (t := .boolean) rfl (by simp) rfl d0_112 (nb rfl) (nb rfl) (rfl)
            · exact absurd c76_101 (by decide)
set_option maxRecDepth 65536 in
theorem comes_1 {Post : Tables → Env → Array Value → State → Outcome → State → Prop} (hpost : ∀ tb e args s v u, (limb_1_1.after args s (.returned v) u = true ∧ limb_1_2.after args s (.returned v) u = true) → FrameEnd s (.returned v) u (Jvm.fieldLocs frame_1_writes args s ++ Jvm.arrayLocs frame_1_arrays args s ++ Jvm.staticLocs frame_1_statics s) 0 0 → Post tb e args s (.returned v) u) :
    ArmFor flags0 classFile x code maxLocals ret World_1 tables_1 room_1 Calls_1 rest_1 Pre_1 Post := by
  intro l hfl _ _ p e ha hc hk s m args below hf hA hF happ hP
  obtain ⟨hcalls, hrest, hpre⟩ := hP
  obtain ⟨-, -, -, hnamed, -, -, -, hat⟩ := (Spec.applies_iff hf).mp happ
  obtain ⟨hg, hn⟩ := and_e (Cond.before_iff.mp (show (Jvm.Cond.and given_1 narrow_1).before args s = true from hpre))
  obtain ⟨hct, g0⟩ := and_e hg
  obtain ⟨a0, g1⟩ := and_e g0
  obtain ⟨v0, v1, rfl⟩ : ∃ v0 v1 : Value, args = #[v0, v1] := by
    have hs : args.size = 2 := by simpa [Cond.value, given_1] using hct
    obtain ⟨L⟩ := args
    match L, hs with
    | [v0, v1], _ => exact ⟨v0, v1, rfl⟩
  have hw := fun d (hd : d ∈ tables_1) => atoms_spec (ws := Jvm.Cond.code x code maxLocals ret :: tables_1) hat d (List.mem_cons_of_mem _ hd)
  have hfit : Fit s := fun {y c} hc i hi => by
    obtain ⟨ha, rfl⟩ := Array.getElem?_eq_some_iff.mp hc
    have q := List.all_eq_true.mp ((Array.all_eq_true_iff_forall_mem.mp hF) _ (Array.getElem_mem ha)) i (List.mem_range.mpr hi)
    simpa [Array.getElem?_eq_getElem hi] using q
  obtain ⟨i0, ei0⟩ := is_v a0
  obtain rfl : v0 = (.int i0) := Option.some.inj ei0
  obtain ⟨i1, ei1⟩ := is_v g1
  obtain rfl : v1 = (.int i1) := Option.some.inj ei1
  obtain ⟨nx0, nrx0⟩ := and_e hn
  obtain ⟨no0, nro0⟩ := and_e nrx0
  obtain ⟨nx1, nrx1⟩ := and_e nro0
  obtain ⟨no1, nro1⟩ := and_e nrx1
  obtain ⟨nx2, nrx2⟩ := and_e nro1
  obtain ⟨no2, nro2⟩ := and_e nrx2
  obtain ⟨nx3, nrx3⟩ := and_e nro2
  obtain ⟨no3, nro3⟩ := and_e nrx3
  obtain ⟨nx4, nrx4⟩ := and_e nro3
  obtain ⟨y0, ey0⟩ := exa_v nx0
  have T0 := Sta.start ey0 (Or.inr ⟨(w6 hw), (w7 hw)⟩)
  have X0 := Exa.start ey0 nx0
  have F0 := Fld.start ((fld_at ey0).symm.trans (eqv_i (Term.int_eval _) no0))
  obtain ⟨y1, ey1⟩ := exa_v nx3
  have T1 := Sta.start ey1 (Or.inr ⟨(w6 hw), (w32 hw)⟩)
  have X1 := Exa.start ey1 nx3
  have F1 := Fld.start ((fld_at ey1).symm.trans (eqv_i (Term.int_eval _) no3))
  obtain ⟨y2, ey2⟩ := exa_v nx4
  have T2 := Sta.start ey2 (Or.inr ⟨(w6 hw), (w34 hw)⟩)
  have X2 := Exa.start ey2 nx4
  have F2 := Fld.start ((fld_at ey2).symm.trans (eqv_i (Term.int_eval _) nrx4))
  obtain ⟨y3, ey3⟩ := exa_v nx2
  have T3 := Sta.start ey3 (Or.inr ⟨(w6 hw), (w25 hw)⟩)
  have X3 := Exa.start ey3 nx2
  have F3 := Fld.start ((fld_at ey3).symm.trans (eqv_i (Term.int_eval _) no2))
  obtain ⟨y4, ey4⟩ := exa_v nx1
  have T4 := Sta.start ey4 (Or.inr ⟨(w6 hw), (w23 hw)⟩)
  have X4 := Exa.start ey4 nx1
  have F4 := Fld.start ((fld_at ey4).symm.trans (eqv_i (Term.int_eval _) no1))
  obtain ⟨n, o, h1, h2, h3, _, L, rfl, ⟨rfl, N⟩, hq⟩ := rm0 l s _ hw i0 i1 y0 y1 y2 y3 y4 s.heap s.heap.size (Nat.le_refl _) T0 T1 T2 T3 T4 X0 F0 X1 F1 X2 F2 X3 F3 X4 F4 tables_1 p e ha hc hk s m _ below hf ((Spec.applies_iff_loose hf).mp happ).1 ⟨rfl, State.Warmed39.refl s, rfl⟩ trivial
  exact ⟨n, _, h1, h2, h3, hpost _ _ _ _ _ _ ⟨Cond.after_iff.mpr rfl, Cond.after_iff.mpr (eq_i res_at (Term.int_eval (1)) rfl)⟩ ⟨hq.1, hq.2.1, (hq.2.2.sift fun y hy => Or.inr (N y hy)).mono (by decide) (by decide)⟩⟩
theorem main_1_1 : Claimed_1_1 := comes_1 fun _ _ _ _ _ _ h hF => ⟨h.1, hF⟩
theorem main_1_2 : Claimed_1_2 := comes_1 fun _ _ _ _ _ _ h hF => ⟨h.2, hF⟩
end Jvm.Pilot.@@N@@
namespace Jvm.Pilot.@@N@@
open Jvm Jvm.ClassFile Sem Op Lib Jvm.Free Jvm.Stand Jvm.Pilot.@@N@@.Jvm.D
/-! MADE BY PROGRAM (witnessworld.py) out of the Statement's table words and the real class files: 12 classes; the members and pool entries that the words name. The judged class is class 1, her method 2. -/
namespace start1
open Jvm.ClassFile
def u (s : String) : CpInfo := .utf8 (stringToUtf16 s)
/-- a pool by its gaps: so many unusable entries, then the entry; so many at the end -/
def gap : Nat → List CpInfo → List CpInfo
  | 0, r => r
  | n + 1, r => .unusable :: gap n r
def poolList (es : List (Nat × CpInfo)) (last : Nat) : List CpInfo := es.foldr (fun e r => gap e.1 (e.2 :: r)) (gap last [])
def pool (es : List (Nat × CpInfo)) (last : Nat) : Array CpInfo := ⟨poolList es last⟩
def fileOf (pool : Array CpInfo) (this : Nat) (attrs : Array Attribute := #[]) (ms : Array MethodInfo := #[]) (fl : Nat := 33) (sup : Nat := 0) (ifs : Array Nat := #[]) (fds : Array FieldInfo := #[]) : ClassFile where
  minorVersion := 0
  majorVersion := 65
  constantPool := pool
  accessFlags := fl
  thisClass := this
  superClass := sup
  interfaces := ifs
  fields := fds
  methods := ms
  attributes := attrs
def plain (name : String) (sup : Option ClassId) : Class where
  name := name
  kind := .ordinary
  loader := none
  accessFlags := 33
  super := sup
  interfaces := #[]
  cf := none
  fields := #[]
  methods := #[]
  instanceTypes := #[]
  staticTypes := #[]
  resolved := #[]
  callSites := []
  init := .initialized
  statics := none
  mirror := none

def pool0 : Array CpInfo := pool [(5, u "<init>"), (0, u "()V"), (1, .class_ 10), (1, u "java/lang/Object")] 113

def k0m0 : Method := { name := "<init>", desc := "()V", sig := { parameters := [], returnType := none }, accessFlags := 1, code := none }
/-- java/lang/Object -/
def k0 : Class := { plain "java/lang/Object" none with
  accessFlags := 33
  interfaces := #[]
  cf := some (fileOf pool0 8 #[] #[{ accessFlags := 1, nameIndex := 5, descriptorIndex := 6, attributes := #[] }] 33 0 #[] #[])
  fields := #[]
  methods := #[k0m0]
  instanceTypes := #[]
  staticTypes := #[]
  resolved := Array.replicate 124 none
  statics := none }

def pool1 : Array CpInfo := pool [(2, .class_ 4), (1, u "java/lang/Object"), (0, u "<init>"), (0, u "()V"), (0, .fieldref 8 9), (0, .class_ 10), (0, .nameAndType 11 12), (0, u "com/example/bramble_tree/brambletree/rules/ElementSetMode"), (0, u "CURRENT"), (0, u "Lcom/example/bramble_tree/brambletree/rules/ElementSetMode;"), (0, .fieldref 8 14), (0, .nameAndType 15 12), (0, u "RELEASE"), (0, .fieldref 8 17), (0, .nameAndType 18 12), (0, u "CURRENT_THEN_RELEASE"), (0, .fieldref 8 20), (0, .nameAndType 21 12), (0, u "RELEASE_THEN_CURRENT"), (0, .fieldref 8 23), (0, .nameAndType 24 12), (0, u "NONE"), (0, .integer 2147483647), (0, .methodref 27 28), (0, .class_ 29), (0, .nameAndType 30 31), (0, u "com/example/bramble_tree/brambletree/rules/ElementSetModeAddsPinLaw"), (0, u "modeOf"), (0, u "(I)Lcom/example/bramble_tree/brambletree/rules/ElementSetMode;"), (0, .methodref 8 33), (0, .nameAndType 34 35), (0, u "adds"), (0, u "(Z)Z"), (0, .methodref 8 37), (0, .nameAndType 38 35), (0, u "removes"), (3, u "law"), (0, u "(II)Z")] 2

def k1m0 : Method := { name := "<init>", desc := "()V", sig := { parameters := [], returnType := none }, accessFlags := 1, code := none }
def k1c1 : Code := { maxStack := 2, maxLocals := 1, code := method_2_code, exceptionTable := #[], attributes := #[] }
def k1m1 : Method := { name := "modeOf", desc := "(I)Lcom/example/bramble_tree/brambletree/rules/ElementSetMode;", sig := { parameters := [.int], returnType := some (.object "com/example/bramble_tree/brambletree/rules/ElementSetMode") }, accessFlags := 10, code := some k1c1 }
def k1c2 : Code := { maxStack := 2, maxLocals := 8, code := code, exceptionTable := #[], attributes := #[] }
def k1m2 : Method := { name := "law", desc := "(II)Z", sig := { parameters := [.int, .int], returnType := some .boolean }, accessFlags := 9, code := some k1c2 }
/-- com/example/bramble_tree/brambletree/rules/ElementSetModeAddsPinLaw -/
def k1 : Class := { plain "com/example/bramble_tree/brambletree/rules/ElementSetModeAddsPinLaw" (some 0) with
  accessFlags := 49
  interfaces := #[]
  cf := some (fileOf pool1 27 #[] #[{ accessFlags := 1, nameIndex := 5, descriptorIndex := 6, attributes := #[] }, { accessFlags := 10, nameIndex := 30, descriptorIndex := 31, attributes := #[] }, { accessFlags := 9, nameIndex := 42, descriptorIndex := 43, attributes := #[] }] 49 2 #[] #[])
  fields := #[]
  methods := #[k1m0, k1m1, k1m2]
  instanceTypes := #[]
  staticTypes := #[]
  resolved := Array.replicate 46 none
  statics := none }

def pool2 : Array CpInfo := pool [(1, .class_ 2), (0, u "java/lang/constant/Constable"), (0, .class_ 4), (0, u "java/lang/Object")] 6

/-- java/lang/constant/Constable -/
def k2 : Class := { plain "java/lang/constant/Constable" (some 0) with
  accessFlags := 1537
  interfaces := #[]
  cf := some (fileOf pool2 1 #[] #[] 1537 3 #[] #[])
  fields := #[]
  methods := #[]
  instanceTypes := #[]
  staticTypes := #[]
  resolved := Array.replicate 11 none
  statics := none }

def pool3 : Array CpInfo := pool [(1, .class_ 2), (0, u "java/lang/Comparable"), (0, .class_ 4), (0, u "java/lang/Object")] 7

/-- java/lang/Comparable -/
def k3 : Class := { plain "java/lang/Comparable" (some 0) with
  accessFlags := 1537
  interfaces := #[]
  cf := some (fileOf pool3 1 #[] #[] 1537 3 #[] #[])
  fields := #[]
  methods := #[]
  instanceTypes := #[]
  staticTypes := #[]
  resolved := Array.replicate 12 none
  statics := none }

def pool4 : Array CpInfo := pool [(1, .class_ 2), (0, u "java/io/Serializable"), (0, .class_ 4), (0, u "java/lang/Object")] 2

/-- java/io/Serializable -/
def k4 : Class := { plain "java/io/Serializable" (some 0) with
  accessFlags := 1537
  interfaces := #[]
  cf := some (fileOf pool4 1 #[] #[] 1537 3 #[] #[])
  fields := #[]
  methods := #[]
  instanceTypes := #[]
  staticTypes := #[]
  resolved := Array.replicate 7 none
  statics := none }

def pool5 : Array CpInfo := pool [(2, .class_ 4), (1, u "java/lang/Enum"), (0, u "name"), (0, u "Ljava/lang/String;"), (0, .fieldref 2 8), (0, .nameAndType 9 10), (0, u "ordinal"), (0, u "I"), (1, .class_ 14), (1, u "java/lang/Object"), (4, u "hash"), (86, .class_ 108), (1, u "java/lang/Enum$EnumDesc"), (2, .class_ 112), (0, u "java/lang/constant/Constable"), (0, .class_ 114), (0, u "java/lang/Comparable"), (0, .class_ 116), (0, u "java/io/Serializable"), (9, u "()I")] 77

def k5c0 : Code := { maxStack := 1, maxLocals := 1, code := jdk_37_method_2_code, exceptionTable := #[], attributes := #[] }
def k5m0 : Method := { name := "ordinal", desc := "()I", sig := { parameters := [], returnType := some .int }, accessFlags := 17, code := some k5c0 }
/-- java/lang/Enum -/
def k5 : Class := { plain "java/lang/Enum" (some 0) with
  accessFlags := 1057
  interfaces := #[2, 3, 4]
  cf := some (fileOf pool5 2 #[.nestMembers #[106]] #[{ accessFlags := 17, nameIndex := 9, descriptorIndex := 126, attributes := #[] }] 1057 12 #[111, 113, 115] #[{ accessFlags := 18, nameIndex := 5, descriptorIndex := 6, attributes := #[] }, { accessFlags := 18, nameIndex := 9, descriptorIndex := 10, attributes := #[] }, { accessFlags := 2, nameIndex := 19, descriptorIndex := 10, attributes := #[] }])
  fields := #[{ name := "name", type := (.object "java/lang/String"), accessFlags := 18, slot := 0, constantValue := 0 }, { name := "ordinal", type := .int, accessFlags := 18, slot := 1, constantValue := 0 }, { name := "hash", type := .int, accessFlags := 2, slot := 2, constantValue := 0 }]
  methods := #[k5m0]
  instanceTypes := #[(.object "java/lang/String"), .int, .int]
  staticTypes := #[]
  resolved := Array.replicate 204 none
  statics := none }

def pool6 : Array CpInfo := pool [(1, .class_ 2), (0, u "com/example/bramble_tree/brambletree/rules/ElementSetMode"), (2, u "CURRENT"), (0, u "Lcom/example/bramble_tree/brambletree/rules/ElementSetMode;"), (2, u "RELEASE"), (2, u "CURRENT_THEN_RELEASE"), (2, u "RELEASE_THEN_CURRENT"), (2, u "NONE"), (2, u "$VALUES"), (0, u "[Lcom/example/bramble_tree/brambletree/rules/ElementSetMode;"), (6, .class_ 31), (1, u "java/lang/Enum"), (19, .methodref 1 52), (0, .nameAndType 53 54), (0, u "ordinal"), (0, u "()I"), (163, u "adds"), (0, u "(Z)Z"), (2, u "removes")] 77

def k6c0 : Code := { maxStack := 4, maxLocals := 2, code := prog_54_method_5_code, exceptionTable := #[], attributes := #[] }
def k6m0 : Method := { name := "removes", desc := "(Z)Z", sig := { parameters := [.boolean], returnType := some .boolean }, accessFlags := 1, code := some k6c0 }
def k6c1 : Code := { maxStack := 4, maxLocals := 2, code := prog_54_method_6_code, exceptionTable := #[], attributes := #[] }
def k6m1 : Method := { name := "adds", desc := "(Z)Z", sig := { parameters := [.boolean], returnType := some .boolean }, accessFlags := 1, code := some k6c1 }
/-- com/example/bramble_tree/brambletree/rules/ElementSetMode -/
def k6 : Class := { plain "com/example/bramble_tree/brambletree/rules/ElementSetMode" (some 5) with
  accessFlags := 16433
  interfaces := #[]
  cf := some (fileOf pool6 1 #[] #[{ accessFlags := 1, nameIndex := 222, descriptorIndex := 219, attributes := #[] }, { accessFlags := 1, nameIndex := 218, descriptorIndex := 219, attributes := #[] }] 16433 29 #[] #[{ accessFlags := 16409, nameIndex := 5, descriptorIndex := 6, attributes := #[] }, { accessFlags := 16409, nameIndex := 9, descriptorIndex := 6, attributes := #[] }, { accessFlags := 16409, nameIndex := 12, descriptorIndex := 6, attributes := #[] }, { accessFlags := 16409, nameIndex := 15, descriptorIndex := 6, attributes := #[] }, { accessFlags := 16409, nameIndex := 18, descriptorIndex := 6, attributes := #[] }, { accessFlags := 4122, nameIndex := 21, descriptorIndex := 22, attributes := #[] }])
  fields := #[{ name := "CURRENT", type := (.object "com/example/bramble_tree/brambletree/rules/ElementSetMode"), accessFlags := 16409, slot := 0, constantValue := 0 }, { name := "RELEASE", type := (.object "com/example/bramble_tree/brambletree/rules/ElementSetMode"), accessFlags := 16409, slot := 1, constantValue := 0 }, { name := "CURRENT_THEN_RELEASE", type := (.object "com/example/bramble_tree/brambletree/rules/ElementSetMode"), accessFlags := 16409, slot := 2, constantValue := 0 }, { name := "RELEASE_THEN_CURRENT", type := (.object "com/example/bramble_tree/brambletree/rules/ElementSetMode"), accessFlags := 16409, slot := 3, constantValue := 0 }, { name := "NONE", type := (.object "com/example/bramble_tree/brambletree/rules/ElementSetMode"), accessFlags := 16409, slot := 4, constantValue := 0 }, { name := "$VALUES", type := (.array (.object "com/example/bramble_tree/brambletree/rules/ElementSetMode")), accessFlags := 4122, slot := 5, constantValue := 0 }]
  methods := #[k6m0, k6m1]
  instanceTypes := #[(.object "java/lang/String"), .int, .int]
  staticTypes := #[(.object "com/example/bramble_tree/brambletree/rules/ElementSetMode"), (.object "com/example/bramble_tree/brambletree/rules/ElementSetMode"), (.object "com/example/bramble_tree/brambletree/rules/ElementSetMode"), (.object "com/example/bramble_tree/brambletree/rules/ElementSetMode"), (.object "com/example/bramble_tree/brambletree/rules/ElementSetMode"), (.array (.object "com/example/bramble_tree/brambletree/rules/ElementSetMode"))]
  resolved := Array.replicate 300 none
  statics := some 0 }

def pool7 : Array CpInfo := pool [(1, u "java/lang/Cloneable"), (0, .class_ 1), (0, u "java/lang/Object"), (0, .class_ 3)] 3

/-- java/lang/Cloneable -/
def k7 : Class := { plain "java/lang/Cloneable" (some 0) with
  accessFlags := 1537
  interfaces := #[]
  cf := some (fileOf pool7 2 #[] #[] 1537 4 #[] #[])
  fields := #[]
  methods := #[]
  instanceTypes := #[]
  staticTypes := #[]
  resolved := Array.replicate 8 none
  statics := none }

/-- the primitive byte -/
def k8 : Class := { plain "byte" none with kind := .primitive 'B', accessFlags := 0x411 }
/-- [B -/
def k9 : Class := { plain "[B" (some 0) with kind := .array 8 .byte, interfaces := #[7, 4], accessFlags := 1041 }

/-- the primitive int -/
def k10 : Class := { plain "int" none with kind := .primitive 'I', accessFlags := 0x411 }
/-- [I -/
def k11 : Class := { plain "[I" (some 0) with kind := .array 10 .int, interfaces := #[7, 4], accessFlags := 1041 }

def heap : Heap := #[{ cls := 6, slots := #[.ref 1, .ref 2, .ref 3, .ref 4, .ref 5, .null], vm := .statics 6 },
  { cls := 6, slots := #[.null, .int 0, .int 0], vm := .none },
  { cls := 6, slots := #[.null, .int 1, .int 0], vm := .none },
  { cls := 6, slots := #[.null, .int 2, .int 0], vm := .none },
  { cls := 6, slots := #[.null, .int 3, .int 0], vm := .none },
  { cls := 6, slots := #[.null, .int 4, .int 0], vm := .none }]
def classes : Array Class := #[k0, k1, k2, k3, k4, k5, k6, k7, k8, k9, k10, k11]
def interned : List (Array UInt16 × Addr) := []
def slotsUsed : Nat := 21
def theMethod : MethodId := ⟨1, 2⟩
def args0 : Array Value := #[.int 5, .int 3]
def aboutOver (below : List Frame) : State where
  vm := { classes := classes, interned := interned.toArray }
  heap := heap
  slotsUsed := slotsUsed
  threads := #[{ frames := .invoking theMethod args0 :: below }]
def below0 : List Frame := [.native { method := ⟨0, 0⟩, args := #[] }]
def about1 : State := aboutOver below0
def p0 : Program := .bare "" "" ""
def e0 : Env := launch0.env 0 0 0
theorem w_frames : about1.frames = Frame.invoking theMethod args0 :: below0 := rfl
set_option maxRecDepth 65536 in
theorem w_args : argsFit about1.vm theMethod args0 = true := by decide +kernel
set_option maxRecDepth 65536 in
theorem w_heap : heapFits about1 = true := by decide +kernel
set_option maxRecDepth 65536 in
theorem w_runnable : about1.curStatus? = some .runnable := by decide +kernel
set_option maxRecDepth 65536 in
theorem w_alone : about1.alone = true := by decide +kernel
set_option maxRecDepth 65536 in
theorem w_named : about1.methodNamed? x = some theMethod := by decide +kernel
set_option maxRecDepth 65536 in
theorem w_hears : about1.hears theMethod below0 = true := by decide +kernel
set_option maxRecDepth 65536 in
theorem w_ripe : about1.ripe theMethod args0 below0 = true := by decide +kernel
theorem w_running : about1.status = .running := rfl
set_option maxRecDepth 65536 in
theorem w_room : about1.hasRoom e0.platform room_1 = true :=
  launch0.hasRoom_least _ room_1 (by decide +kernel) (by decide +kernel) (by decide +kernel) (by decide +kernel) (by decide +kernel) (by decide +kernel)
theorem allAtoms_all (ts : List Jvm.Cond) (a : Array Jvm.Value) (st : Jvm.State) : (allAtoms ts).before a st = ts.all (fun c => c.before a st) := by
  induction ts with
  | nil => rfl
  | cons c t ih =>
    show (Jvm.Cond.and c (allAtoms t)).before a st = _
    rw [Jvm.Cond.before_and, ih, List.all_cons]
def words1 : List Jvm.Cond := Jvm.Cond.code x code maxLocals ret :: tables_1
/-- a 'code' word, met by the world's own term for the bytes: nothing is compared byte by byte -/
theorem code_word {y : MethodName} {bytes : ByteArray} {mx : Nat} {rt : Option FieldType} {a : Array Value} {s : State} {m : MethodId} {meth : Method} {c : Code} (h1 : s.methodNamed? y = some m) (h2 : s.vm.method? m = some meth) (h3 : meth.code = some c) (h4 : c.code = bytes)
    (h5 : (c.maxLocals == mx && c.exceptionTable.isEmpty && decide (c.maxStack ≤ mostOperands) && decide (meth.sig.returnType = rt) && !meth.locks && decide (parseMethodDescriptor y.desc = some meth.sig)) = true) : (Jvm.Cond.code y bytes mx rt).before a s = true := by
  simp only [Bool.and_eq_true, beq_iff_eq, Bool.not_eq_true', decide_eq_true_eq] at h5
  obtain ⟨⟨⟨⟨⟨g1, g2⟩, g3⟩, g4⟩, g5⟩, g6⟩ := h5
  simp [Cond.before, Cond.holds, Cond.value, h1, h2, h3, h4, g1, g2, g3, g4, g5, g6]
def isCode : Jvm.Cond → Bool
  | .code _ _ _ _ => true
  | _ => false
theorem all_split {L : List Jvm.Cond} {P : Jvm.Cond → Bool} (h1 : L.all (fun c => isCode c || P c) = true) (h2 : ∀ c ∈ L.filter isCode, P c = true) : L.all P = true := by
  refine List.all_eq_true.mpr fun c hc => ?_
  have h := List.all_eq_true.mp h1 c hc
  rcases Bool.eq_false_or_eq_true (isCode c) with hi | hi
  · exact h2 c (List.mem_filter.mpr ⟨hc, hi⟩)
  · simpa [hi] using h
set_option maxRecDepth 65536 in
theorem w_c0 : (Jvm.Cond.code x code maxLocals ret).before args0 about1 = true := code_word (m := ⟨1, 2⟩) (meth := k1m2) (c := k1c2) (by decide +kernel) rfl rfl rfl (by decide +kernel)
set_option maxRecDepth 65536 in
theorem w_c1 : (Jvm.Cond.code ({ cls := "com/example/bramble_tree/brambletree/rules/ElementSetModeAddsPinLaw", name := "modeOf", desc := "(I)Lcom/example/bramble_tree/brambletree/rules/ElementSetMode;" } : Jvm.MethodName) method_2_code (1 : Nat) (Option.some (Jvm.ClassFile.FieldType.object "com/example/bramble_tree/brambletree/rules/ElementSetMode"))).before args0 about1 = true := code_word (m := ⟨1, 1⟩) (meth := k1m1) (c := k1c1) (by decide +kernel) rfl rfl rfl (by decide +kernel)
set_option maxRecDepth 65536 in
theorem w_c2 : (Jvm.Cond.code ({ cls := "com/example/bramble_tree/brambletree/rules/ElementSetMode", name := "adds", desc := "(Z)Z" } : Jvm.MethodName) prog_54_method_6_code (2 : Nat) (Option.some Jvm.ClassFile.FieldType.boolean)).before args0 about1 = true := code_word (m := ⟨6, 1⟩) (meth := k6m1) (c := k6c1) (by decide +kernel) rfl rfl rfl (by decide +kernel)
set_option maxRecDepth 65536 in
theorem w_c3 : (Jvm.Cond.code ({ cls := "java/lang/Enum", name := "ordinal", desc := "()I" } : Jvm.MethodName) jdk_37_method_2_code (1 : Nat) (Option.some Jvm.ClassFile.FieldType.int)).before args0 about1 = true := code_word (m := ⟨5, 0⟩) (meth := k5m0) (c := k5c0) (by decide +kernel) rfl rfl rfl (by decide +kernel)
set_option maxRecDepth 65536 in
theorem w_c4 : (Jvm.Cond.code ({ cls := "com/example/bramble_tree/brambletree/rules/ElementSetMode", name := "removes", desc := "(Z)Z" } : Jvm.MethodName) prog_54_method_5_code (2 : Nat) (Option.some Jvm.ClassFile.FieldType.boolean)).before args0 about1 = true := code_word (m := ⟨6, 0⟩) (meth := k6m0) (c := k6c0) (by decide +kernel) rfl rfl rfl (by decide +kernel)
def codes1 : List Jvm.Cond := [Jvm.Cond.code x code maxLocals ret, Jvm.Cond.code ({ cls := "com/example/bramble_tree/brambletree/rules/ElementSetModeAddsPinLaw", name := "modeOf", desc := "(I)Lcom/example/bramble_tree/brambletree/rules/ElementSetMode;" } : Jvm.MethodName) method_2_code (1 : Nat) (Option.some (Jvm.ClassFile.FieldType.object "com/example/bramble_tree/brambletree/rules/ElementSetMode")), Jvm.Cond.code ({ cls := "com/example/bramble_tree/brambletree/rules/ElementSetMode", name := "adds", desc := "(Z)Z" } : Jvm.MethodName) prog_54_method_6_code (2 : Nat) (Option.some Jvm.ClassFile.FieldType.boolean), Jvm.Cond.code ({ cls := "java/lang/Enum", name := "ordinal", desc := "()I" } : Jvm.MethodName) jdk_37_method_2_code (1 : Nat) (Option.some Jvm.ClassFile.FieldType.int), Jvm.Cond.code ({ cls := "com/example/bramble_tree/brambletree/rules/ElementSetMode", name := "removes", desc := "(Z)Z" } : Jvm.MethodName) prog_54_method_5_code (2 : Nat) (Option.some Jvm.ClassFile.FieldType.boolean)]
set_option maxRecDepth 65536 in
theorem codes_eq : words1.filter isCode = codes1 := rfl
theorem w_codes : ∀ c ∈ words1.filter isCode, c.before args0 about1 = true := by
  rw [codes_eq]
  intro c hc
  simp only [codes1, List.mem_cons, List.not_mem_nil, or_false] at hc
  rcases hc with rfl | rfl | rfl | rfl | rfl
  · exact w_c0
  · exact w_c1
  · exact w_c2
  · exact w_c3
  · exact w_c4
set_option maxRecDepth 65536 in
theorem w_t1 : (words1.take 24).all (fun c => isCode c || c.before args0 about1) = true := by decide +kernel
set_option maxRecDepth 65536 in
theorem w_t2 : (words1.drop 24).all (fun c => isCode c || c.before args0 about1) = true := by decide +kernel
theorem w_tables : (allAtoms (Jvm.Cond.code x code maxLocals ret :: tables_1)).before args0 about1 = true := by
  rw [allAtoms_all]
  show words1.all (fun c => c.before args0 about1) = true
  refine all_split ?_ w_codes
  rw [← List.take_append_drop 24 words1, List.all_append, w_t1, w_t2]
  rfl
set_option maxRecDepth 65536 in
theorem w_case : (Jvm.Cond.and given_1 narrow_1).before args0 about1 = true := by decide +kernel
theorem w_applies : (headSpec (Jvm.Cond.code x code maxLocals ret :: tables_1) room_1).applies x e0.platform about1 = true :=
  (Spec.applies_iff w_frames).mpr ⟨w_running, w_runnable, w_alone, w_named, w_hears, w_ripe, w_room, w_tables⟩
theorem atStart : AtStart classFile x code maxLocals ret World_1 tables_1 room_1 Calls_1 rest_1 Pre_1 launch0 p0 e0 about1 theMethod args0 below0 :=
  ⟨lists_1, trivial, launch0.admits_env _ _ _, launch0.least_env, fairChoices_fair.cas, fairChoices_fair.clock, w_frames, w_args, w_heap, w_applies, trivial, trivial, w_case⟩
end start1
theorem witness_1 : WitnessClaimed_1 := ⟨start1.p0, start1.e0, start1.about1, start1.theMethod, start1.args0, start1.below0, start1.atStart⟩
end Jvm.Pilot.@@N@@
