import JvmDerived
import JvmDerived.Pilot.@@N@@Statement
import JvmDerived.Pilot.@@N@@Code
set_option linter.unusedVariables false
set_option linter.unusedSimpArgs false
namespace Jvm.GoKit
open Sem ClassFile Op Lib Jvm.Stand Jvm.Free Jvm.LawKit Jvm.RoadKit
/-- what is fixed of one walk, but for the method's own figures -/
abbrev Cx : Type := Program × Launch × Env × State × MethodId × Array Value × List Frame × Method × Code
abbrev Cx.p (E : Cx) : Program := E.1
abbrev Cx.l (E : Cx) : Launch := E.2.1
abbrev Cx.e (E : Cx) : Env := E.2.2.1
abbrev Cx.s (E : Cx) : State := E.2.2.2.1
abbrev Cx.m (E : Cx) : MethodId := E.2.2.2.2.1
abbrev Cx.args (E : Cx) : Array Value := E.2.2.2.2.2.1
abbrev Cx.below (E : Cx) : List Frame := E.2.2.2.2.2.2.1
abbrev Cx.meth (E : Cx) : Method := E.2.2.2.2.2.2.2.1
abbrev Cx.c (E : Cx) : Code := E.2.2.2.2.2.2.2.2
/-- a method's own figures: its name, bytes, locals, return type, room -/
abbrev Mt : Type := MethodName × ByteArray × Nat × Option FieldType × Room
abbrev Mt.y (k : Mt) : MethodName := k.1
abbrev Mt.bytes (k : Mt) : ByteArray := k.2.1
abbrev Mt.maxL (k : Mt) : Nat := k.2.2.1
abbrev Mt.ret (k : Mt) : Option FieldType := k.2.2.2.1
abbrev Mt.rm (k : Mt) : Room := k.2.2.2.2
/-- the run from S ends, as G says -/
def Go (E : Cx) (G : State → Outcome → Prop) (S : State) : Prop := ∃ s₂ o, Steps E.p.tables E.e E.below S s₂ ∧ s₂.status = .running ∧ Ended s₂ E.below o ∧ G s₂ o
abbrev Fm (E : Cx) (T : State) (pc : Nat) (Ls : Array Slot) (st : List Value) : State := T.setTop (mkF E.m pc Ls st)
theorem nb {a b : Nat} (h : Nat.ble a b = true) : a ≤ b := Nat.le_of_ble_eq_true h
theorem Go.step {E : Cx} {G : State → Outcome → Prop} {S S' : State} (g : Go E G S') (k : ∀ t, Steps E.p.tables E.e E.below S' t → Steps E.p.tables E.e E.below S t) : Go E G S := by
  obtain ⟨s₂, o, h1, h2⟩ := g
  exact ⟨s₂, o, k _ h1, h2⟩
theorem Go.mono {E : Cx} {G G' : State → Outcome → Prop} {S : State} (g : Go E G S) (k : ∀ t o, G t o → G' t o) : Go E G' S := by
  obtain ⟨s₂, o, h1, h2, h3, h4⟩ := g
  exact ⟨s₂, o, h1, h2, h3, k _ _ h4⟩
/-- where a walk stands: its tables' start Z, the heap h, what it has made at the most; what it wrote lies at or above n0 -/
def On (k : Mt) (Z : State) (n0 : Nat) (E : Cx) (T : State) (h : Heap) (cells slots : Nat) : Prop :=
  (E.p.tables.exec = Jvm.exec ∧ E.c.code = k.bytes ∧ E.c.maxLocals = k.maxL ∧ E.s.vm.findClass k.y.cls = some E.m.cls ∧ E.meth.sig.returnType = k.ret ∧ E.meth.locks = false ∧ Z.Warmed39 E.s.vm ∧ E.meth.name = k.y.name ∧ E.s.methodNamed? k.y = some E.m) ∧ T.heap = h ∧
  ∃ locs cells' slots', cells' ≤ cells ∧ slots' ≤ slots ∧ Fr n0 locs ∧ Stand E.p E.l E.e k.rm E.s E.m E.args E.below E.meth E.c T locs cells' slots'
section
variable {k : Mt} {Z : State} {n0 : Nat} {E : Cx} {T : State} {h : Heap} {cells slots : Nat} {G : State → Outcome → Prop} {a0 : Array Value} {pc pc' : Nat} {Ls : Array Slot} {st : List Value}
theorem On.exec (W : On k Z n0 E T h cells slots) : E.p.tables.exec = Jvm.exec := W.1.1
theorem On.bytes (W : On k Z n0 E T h cells slots) : E.c.code = k.bytes := W.1.2.1
theorem On.maxL (W : On k Z n0 E T h cells slots) : E.c.maxLocals = k.maxL := W.1.2.2.1
theorem On.own (W : On k Z n0 E T h cells slots) : E.s.vm.findClass k.y.cls = some E.m.cls := W.1.2.2.2.1
theorem On.ret (W : On k Z n0 E T h cells slots) : E.meth.sig.returnType = k.ret := W.1.2.2.2.2.1
theorem On.locks (W : On k Z n0 E T h cells slots) : E.meth.locks = false := W.1.2.2.2.2.2.1
theorem On.hZ (W : On k Z n0 E T h cells slots) : Z.Warmed39 E.s.vm := W.1.2.2.2.2.2.2.1
theorem On.nm (W : On k Z n0 E T h cells slots) : E.meth.name = k.y.name := W.1.2.2.2.2.2.2.2.1
theorem On.named (W : On k Z n0 E T h cells slots) : E.s.methodNamed? k.y = some E.m := W.1.2.2.2.2.2.2.2.2
theorem On.heap (W : On k Z n0 E T h cells slots) : T.heap = h := W.2.1
theorem On.here (W : On k Z n0 E T h cells slots) : At T E.m E.c E.below := by obtain ⟨-, -, _, _, _, -, -, -, X⟩ := W; exact X.here
theorem On.mono {cells' slots' : Nat} (W : On k Z n0 E T h cells slots) (h1 : cells ≤ cells') (h2 : slots ≤ slots') : On k Z n0 E T h cells' slots' := by
  obtain ⟨q, e, L, a, b, ha, hb, r⟩ := W; exact ⟨q, e, L, a, b, Nat.le_trans ha h1, Nat.le_trans hb h2, r⟩
theorem On.sub {h' : Heap} (W : On k Z n0 E T h cells slots) (q : h = h') : On k Z n0 E T h' cells slots := q ▸ W
theorem On.heq {h' : Heap} (W : On k Z n0 E T h cells slots) (q : h' = h) : On k Z n0 E T h' cells slots := q.symm ▸ W
theorem go_iloadN (W : On k Z n0 E T h cells slots) {i : Fin 4} {v : Int32} (hd : decode k.bytes pc = .ok (.iload_n i, 1)) (hl : Ls[i.val]? = some (.val (.int v))) (hp : pc + 1 = pc') (g : Go E G (Fm E T pc' Ls (.int v :: st))) : Go E G (Fm E T pc Ls st) := by
  subst hp; exact g.step fun t r => XS.iloadN W.here W.exec rfl (hb W.bytes hd) hl r
theorem go_iload (W : On k Z n0 E T h cells slots) {i : Nat} {v : Int32} (hd : decode k.bytes pc = .ok (.iload i, 2)) (hl : Ls[i]? = some (.val (.int v))) (hp : pc + 2 = pc') (g : Go E G (Fm E T pc' Ls (.int v :: st))) : Go E G (Fm E T pc Ls st) := by
  subst hp; exact g.step fun t r => XS.iload W.here W.exec rfl (hb W.bytes hd) hl r
theorem go_istoreN (W : On k Z n0 E T h cells slots) {i : Fin 4} {v : Int32} {l' : Array Slot} (hd : decode k.bytes pc = .ok (.istore_n i, 1)) (hl : storeLocals Ls i.val (.int v) = some l') (hp : pc + 1 = pc') (g : Go E G (Fm E T pc' l' st)) : Go E G (Fm E T pc Ls (.int v :: st)) := by
  subst hp; exact g.step fun t r => XS.istoreN W.here W.exec rfl (hb W.bytes hd) rfl hl r
theorem go_istore (W : On k Z n0 E T h cells slots) {i : Nat} {v : Int32} {l' : Array Slot} (hd : decode k.bytes pc = .ok (.istore i, 2)) (hl : storeLocals Ls i (.int v) = some l') (hp : pc + 2 = pc') (g : Go E G (Fm E T pc' l' st)) : Go E G (Fm E T pc Ls (.int v :: st)) := by
  subst hp; exact g.step fun t r => XS.istore W.here W.exec rfl (hb W.bytes hd) rfl hl r
theorem go_lloadN (W : On k Z n0 E T h cells slots) {i : Fin 4} {v : Int64} (hd : decode k.bytes pc = .ok (.lload_n i, 1)) (hl : Ls[i.val]? = some (.val (.long v))) (hp : pc + 1 = pc') (g : Go E G (Fm E T pc' Ls (.long v :: st))) : Go E G (Fm E T pc Ls st) := by
  subst hp; exact g.step fun t r => XS.lloadN W.here W.exec rfl (hb W.bytes hd) hl r
theorem go_lload (W : On k Z n0 E T h cells slots) {i : Nat} {v : Int64} (hd : decode k.bytes pc = .ok (.lload i, 2)) (hl : Ls[i]? = some (.val (.long v))) (hp : pc + 2 = pc') (g : Go E G (Fm E T pc' Ls (.long v :: st))) : Go E G (Fm E T pc Ls st) := by
  subst hp; exact g.step fun t r => XS.lload W.here W.exec rfl (hb W.bytes hd) hl r
theorem go_lstoreN (W : On k Z n0 E T h cells slots) {i : Fin 4} {v : Int64} {l' : Array Slot} (hd : decode k.bytes pc = .ok (.lstore_n i, 1)) (hl : storeLocals Ls i.val (.long v) = some l') (hp : pc + 1 = pc') (g : Go E G (Fm E T pc' l' st)) : Go E G (Fm E T pc Ls (.long v :: st)) := by
  subst hp; exact g.step fun t r => XS.lstoreN W.here W.exec rfl (hb W.bytes hd) rfl hl r
theorem go_lstore (W : On k Z n0 E T h cells slots) {i : Nat} {v : Int64} {l' : Array Slot} (hd : decode k.bytes pc = .ok (.lstore i, 2)) (hl : storeLocals Ls i (.long v) = some l') (hp : pc + 2 = pc') (g : Go E G (Fm E T pc' l' st)) : Go E G (Fm E T pc Ls (.long v :: st)) := by
  subst hp; exact g.step fun t r => XS.lstore W.here W.exec rfl (hb W.bytes hd) rfl hl r
theorem go_aloadN (W : On k Z n0 E T h cells slots) {i : Fin 4} {v : Value} (hd : decode k.bytes pc = .ok (.aload_n i, 1)) (hl : Ls[i.val]? = some (.val v)) (hv : v.isRef = true) (hp : pc + 1 = pc') (g : Go E G (Fm E T pc' Ls (v :: st))) : Go E G (Fm E T pc Ls st) := by
  subst hp; exact g.step fun t r => XS.aloadN W.here W.exec rfl (hb W.bytes hd) hl hv r
theorem go_aload (W : On k Z n0 E T h cells slots) {i : Nat} {v : Value} (hd : decode k.bytes pc = .ok (.aload i, 2)) (hl : Ls[i]? = some (.val v)) (hv : v.isRef = true) (hp : pc + 2 = pc') (g : Go E G (Fm E T pc' Ls (v :: st))) : Go E G (Fm E T pc Ls st) := by
  subst hp; exact g.step fun t r => XS.aload W.here W.exec rfl (hb W.bytes hd) hl hv r
theorem go_astoreN (W : On k Z n0 E T h cells slots) {i : Fin 4} {v : Value} {l' : Array Slot} (hd : decode k.bytes pc = .ok (.astore_n i, 1)) (hv : v.isRef = true) (hl : storeLocals Ls i.val v = some l') (hp : pc + 1 = pc') (g : Go E G (Fm E T pc' l' st)) : Go E G (Fm E T pc Ls (v :: st)) := by
  subst hp; exact g.step fun t r => XS.astoreN W.here W.exec rfl (hb W.bytes hd) rfl hv hl r
theorem go_astore (W : On k Z n0 E T h cells slots) {i : Nat} {v : Value} {l' : Array Slot} (hd : decode k.bytes pc = .ok (.astore i, 2)) (hv : v.isRef = true) (hl : storeLocals Ls i v = some l') (hp : pc + 2 = pc') (g : Go E G (Fm E T pc' l' st)) : Go E G (Fm E T pc Ls (v :: st)) := by
  subst hp; exact g.step fun t r => XS.astore W.here W.exec rfl (hb W.bytes hd) rfl hv hl r
theorem go_iconst (W : On k Z n0 E T h cells slots) {i : Int} {z : Int32} (hd : decode k.bytes pc = .ok (.iconst i, 1)) (hz : Int32.ofInt i = z) (hp : pc + 1 = pc') (g : Go E G (Fm E T pc' Ls (.int z :: st))) : Go E G (Fm E T pc Ls st) := by
  subst hp; exact g.step fun t r => XS.iconst W.here W.exec rfl (hb W.bytes hd) (hz.symm ▸ r)
theorem go_bipush (W : On k Z n0 E T h cells slots) {i : Int} {z : Int32} (hd : decode k.bytes pc = .ok (.bipush i, 2)) (hz : (Int8.ofInt i).toInt32 = z) (hp : pc + 2 = pc') (g : Go E G (Fm E T pc' Ls (.int z :: st))) : Go E G (Fm E T pc Ls st) := by
  subst hp; exact g.step fun t r => XS.bipush W.here W.exec rfl (hb W.bytes hd) (hz.symm ▸ r)
theorem go_sipush (W : On k Z n0 E T h cells slots) {i : Int} {z : Int32} (hd : decode k.bytes pc = .ok (.sipush i, 3)) (hz : (Int16.ofInt i).toInt32 = z) (hp : pc + 3 = pc') (g : Go E G (Fm E T pc' Ls (.int z :: st))) : Go E G (Fm E T pc Ls st) := by
  subst hp; exact g.step fun t r => XS.sipush W.here W.exec rfl (hb W.bytes hd) (hz.symm ▸ r)
theorem go_lconst (W : On k Z n0 E T h cells slots) {i : Fin 2} {z : Int64} (hd : decode k.bytes pc = .ok (.lconst i, 1)) (hz : Int64.ofNat i = z) (hp : pc + 1 = pc') (g : Go E G (Fm E T pc' Ls (.long z :: st))) : Go E G (Fm E T pc Ls st) := by
  subst hp; exact g.step fun t r => XS.lconst W.here W.exec rfl (hb W.bytes hd) (hz.symm ▸ r)
theorem go_aconstNull (W : On k Z n0 E T h cells slots)  (hd : decode k.bytes pc = .ok (.aconst_null, 1))  (hp : pc + 1 = pc') (g : Go E G (Fm E T pc' Ls (.null :: st))) : Go E G (Fm E T pc Ls st) := by
  subst hp; exact g.step fun t r => XS.aconstNull W.here W.exec rfl (hb W.bytes hd) r
theorem go_iadd (W : On k Z n0 E T h cells slots) {x y : Int32} (hd : decode k.bytes pc = .ok (.iadd, 1))  (hp : pc + 1 = pc') (g : Go E G (Fm E T pc' Ls (.int (x + y) :: st))) : Go E G (Fm E T pc Ls (.int y :: .int x :: st)) := by
  subst hp; exact g.step fun t r => XS.iadd W.here W.exec rfl (hb W.bytes hd) rfl r
theorem go_ladd (W : On k Z n0 E T h cells slots) {x y : Int64} (hd : decode k.bytes pc = .ok (.ladd, 1))  (hp : pc + 1 = pc') (g : Go E G (Fm E T pc' Ls (.long (x + y) :: st))) : Go E G (Fm E T pc Ls (.long y :: .long x :: st)) := by
  subst hp; exact g.step fun t r => XS.ladd W.here W.exec rfl (hb W.bytes hd) rfl r
theorem go_isub (W : On k Z n0 E T h cells slots) {x y : Int32} (hd : decode k.bytes pc = .ok (.isub, 1))  (hp : pc + 1 = pc') (g : Go E G (Fm E T pc' Ls (.int (x - y) :: st))) : Go E G (Fm E T pc Ls (.int y :: .int x :: st)) := by
  subst hp; exact g.step fun t r => XS.isub W.here W.exec rfl (hb W.bytes hd) rfl r
theorem go_lsub (W : On k Z n0 E T h cells slots) {x y : Int64} (hd : decode k.bytes pc = .ok (.lsub, 1))  (hp : pc + 1 = pc') (g : Go E G (Fm E T pc' Ls (.long (x - y) :: st))) : Go E G (Fm E T pc Ls (.long y :: .long x :: st)) := by
  subst hp; exact g.step fun t r => XS.lsub W.here W.exec rfl (hb W.bytes hd) rfl r
theorem go_imul (W : On k Z n0 E T h cells slots) {x y : Int32} (hd : decode k.bytes pc = .ok (.imul, 1))  (hp : pc + 1 = pc') (g : Go E G (Fm E T pc' Ls (.int (x * y) :: st))) : Go E G (Fm E T pc Ls (.int y :: .int x :: st)) := by
  subst hp; exact g.step fun t r => XS.imul W.here W.exec rfl (hb W.bytes hd) rfl r
theorem go_lmul (W : On k Z n0 E T h cells slots) {x y : Int64} (hd : decode k.bytes pc = .ok (.lmul, 1))  (hp : pc + 1 = pc') (g : Go E G (Fm E T pc' Ls (.long (x * y) :: st))) : Go E G (Fm E T pc Ls (.long y :: .long x :: st)) := by
  subst hp; exact g.step fun t r => XS.lmul W.here W.exec rfl (hb W.bytes hd) rfl r
theorem go_iand (W : On k Z n0 E T h cells slots) {x y : Int32} (hd : decode k.bytes pc = .ok (.iand, 1))  (hp : pc + 1 = pc') (g : Go E G (Fm E T pc' Ls (.int (x &&& y) :: st))) : Go E G (Fm E T pc Ls (.int y :: .int x :: st)) := by
  subst hp; exact g.step fun t r => XS.iand W.here W.exec rfl (hb W.bytes hd) rfl r
theorem go_land (W : On k Z n0 E T h cells slots) {x y : Int64} (hd : decode k.bytes pc = .ok (.land, 1))  (hp : pc + 1 = pc') (g : Go E G (Fm E T pc' Ls (.long (x &&& y) :: st))) : Go E G (Fm E T pc Ls (.long y :: .long x :: st)) := by
  subst hp; exact g.step fun t r => XS.land W.here W.exec rfl (hb W.bytes hd) rfl r
theorem go_ior (W : On k Z n0 E T h cells slots) {x y : Int32} (hd : decode k.bytes pc = .ok (.ior, 1))  (hp : pc + 1 = pc') (g : Go E G (Fm E T pc' Ls (.int (x ||| y) :: st))) : Go E G (Fm E T pc Ls (.int y :: .int x :: st)) := by
  subst hp; exact g.step fun t r => XS.ior W.here W.exec rfl (hb W.bytes hd) rfl r
theorem go_lor (W : On k Z n0 E T h cells slots) {x y : Int64} (hd : decode k.bytes pc = .ok (.lor, 1))  (hp : pc + 1 = pc') (g : Go E G (Fm E T pc' Ls (.long (x ||| y) :: st))) : Go E G (Fm E T pc Ls (.long y :: .long x :: st)) := by
  subst hp; exact g.step fun t r => XS.lor W.here W.exec rfl (hb W.bytes hd) rfl r
theorem go_ixor (W : On k Z n0 E T h cells slots) {x y : Int32} (hd : decode k.bytes pc = .ok (.ixor, 1))  (hp : pc + 1 = pc') (g : Go E G (Fm E T pc' Ls (.int (x ^^^ y) :: st))) : Go E G (Fm E T pc Ls (.int y :: .int x :: st)) := by
  subst hp; exact g.step fun t r => XS.ixor W.here W.exec rfl (hb W.bytes hd) rfl r
theorem go_lxor (W : On k Z n0 E T h cells slots) {x y : Int64} (hd : decode k.bytes pc = .ok (.lxor, 1))  (hp : pc + 1 = pc') (g : Go E G (Fm E T pc' Ls (.long (x ^^^ y) :: st))) : Go E G (Fm E T pc Ls (.long y :: .long x :: st)) := by
  subst hp; exact g.step fun t r => XS.lxor W.here W.exec rfl (hb W.bytes hd) rfl r
theorem go_iaddZ (W : On k Z n0 E T h cells slots) {x y z : Int32} (hd : decode k.bytes pc = .ok (.iadd, 1)) (hz : x + y = z) (hp : pc + 1 = pc') (g : Go E G (Fm E T pc' Ls (.int z :: st))) : Go E G (Fm E T pc Ls (.int y :: .int x :: st)) := by
  subst hp; exact g.step fun t r => XS.iadd W.here W.exec rfl (hb W.bytes hd) rfl (hz.symm ▸ r)
theorem go_isubZ (W : On k Z n0 E T h cells slots) {x y z : Int32} (hd : decode k.bytes pc = .ok (.isub, 1)) (hz : x - y = z) (hp : pc + 1 = pc') (g : Go E G (Fm E T pc' Ls (.int z :: st))) : Go E G (Fm E T pc Ls (.int y :: .int x :: st)) := by
  subst hp; exact g.step fun t r => XS.isub W.here W.exec rfl (hb W.bytes hd) rfl (hz.symm ▸ r)
theorem go_imulZ (W : On k Z n0 E T h cells slots) {x y z : Int32} (hd : decode k.bytes pc = .ok (.imul, 1)) (hz : x * y = z) (hp : pc + 1 = pc') (g : Go E G (Fm E T pc' Ls (.int z :: st))) : Go E G (Fm E T pc Ls (.int y :: .int x :: st)) := by
  subst hp; exact g.step fun t r => XS.imul W.here W.exec rfl (hb W.bytes hd) rfl (hz.symm ▸ r)
theorem go_iandZ (W : On k Z n0 E T h cells slots) {x y z : Int32} (hd : decode k.bytes pc = .ok (.iand, 1)) (hz : x &&& y = z) (hp : pc + 1 = pc') (g : Go E G (Fm E T pc' Ls (.int z :: st))) : Go E G (Fm E T pc Ls (.int y :: .int x :: st)) := by
  subst hp; exact g.step fun t r => XS.iand W.here W.exec rfl (hb W.bytes hd) rfl (hz.symm ▸ r)
theorem go_iorZ (W : On k Z n0 E T h cells slots) {x y z : Int32} (hd : decode k.bytes pc = .ok (.ior, 1)) (hz : x ||| y = z) (hp : pc + 1 = pc') (g : Go E G (Fm E T pc' Ls (.int z :: st))) : Go E G (Fm E T pc Ls (.int y :: .int x :: st)) := by
  subst hp; exact g.step fun t r => XS.ior W.here W.exec rfl (hb W.bytes hd) rfl (hz.symm ▸ r)
theorem go_ixorZ (W : On k Z n0 E T h cells slots) {x y z : Int32} (hd : decode k.bytes pc = .ok (.ixor, 1)) (hz : x ^^^ y = z) (hp : pc + 1 = pc') (g : Go E G (Fm E T pc' Ls (.int z :: st))) : Go E G (Fm E T pc Ls (.int y :: .int x :: st)) := by
  subst hp; exact g.step fun t r => XS.ixor W.here W.exec rfl (hb W.bytes hd) rfl (hz.symm ▸ r)
theorem go_idiv (W : On k Z n0 E T h cells slots) {x y : Int32} (hd : decode k.bytes pc = .ok (.idiv, 1)) (hy : y ≠ 0) (hp : pc + 1 = pc') (g : Go E G (Fm E T pc' Ls (.int (x / y) :: st))) : Go E G (Fm E T pc Ls (.int y :: .int x :: st)) := by
  subst hp; exact g.step fun t r => XS.idiv W.here W.exec rfl (hb W.bytes hd) rfl hy r
theorem go_irem (W : On k Z n0 E T h cells slots) {x y : Int32} (hd : decode k.bytes pc = .ok (.irem, 1)) (hy : y ≠ 0) (hp : pc + 1 = pc') (g : Go E G (Fm E T pc' Ls (.int (x % y) :: st))) : Go E G (Fm E T pc Ls (.int y :: .int x :: st)) := by
  obtain ⟨C, hh, _, _, _, -, -, -, X⟩ := W
  subst hp; exact g.step fun t r => iremM X C.1 rfl (hb C.2.1 hd) rfl hy r
theorem go_ineg (W : On k Z n0 E T h cells slots) {x : Int32} (hd : decode k.bytes pc = .ok (.ineg, 1))  (hp : pc + 1 = pc') (g : Go E G (Fm E T pc' Ls (.int (-x) :: st))) : Go E G (Fm E T pc Ls (.int x :: st)) := by
  subst hp; exact g.step fun t r => XS.ineg W.here W.exec rfl (hb W.bytes hd) rfl r
theorem go_ishl (W : On k Z n0 E T h cells slots) {x y : Int32} (hd : decode k.bytes pc = .ok (.ishl, 1))  (hp : pc + 1 = pc') (g : Go E G (Fm E T pc' Ls (.int (x <<< (y &&& 31)) :: st))) : Go E G (Fm E T pc Ls (.int y :: .int x :: st)) := by
  subst hp; exact g.step fun t r => XS.ishl W.here W.exec rfl (hb W.bytes hd) rfl r
theorem go_ishr (W : On k Z n0 E T h cells slots) {x y : Int32} (hd : decode k.bytes pc = .ok (.ishr, 1))  (hp : pc + 1 = pc') (g : Go E G (Fm E T pc' Ls (.int (x >>> (y &&& 31)) :: st))) : Go E G (Fm E T pc Ls (.int y :: .int x :: st)) := by
  subst hp; exact g.step fun t r => XS.ishr W.here W.exec rfl (hb W.bytes hd) rfl r
theorem go_iushr (W : On k Z n0 E T h cells slots) {x y : Int32} (hd : decode k.bytes pc = .ok (.iushr, 1))  (hp : pc + 1 = pc') (g : Go E G (Fm E T pc' Ls (.int ((x.toUInt32 >>> (y &&& 31).toUInt32).toInt32) :: st))) : Go E G (Fm E T pc Ls (.int y :: .int x :: st)) := by
  subst hp; exact g.step fun t r => XS.iushr W.here W.exec rfl (hb W.bytes hd) rfl r
theorem go_lshl (W : On k Z n0 E T h cells slots) {x : Int64} {y : Int32} (hd : decode k.bytes pc = .ok (.lshl, 1))  (hp : pc + 1 = pc') (g : Go E G (Fm E T pc' Ls (.long (x <<< (y &&& 0x3f).toInt64) :: st))) : Go E G (Fm E T pc Ls (.int y :: .long x :: st)) := by
  subst hp; exact g.step fun t r => XS.lshl W.here W.exec rfl (hb W.bytes hd) rfl r
theorem go_lshr (W : On k Z n0 E T h cells slots) {x : Int64} {y : Int32} (hd : decode k.bytes pc = .ok (.lshr, 1))  (hp : pc + 1 = pc') (g : Go E G (Fm E T pc' Ls (.long (x >>> (y &&& 0x3f).toInt64) :: st))) : Go E G (Fm E T pc Ls (.int y :: .long x :: st)) := by
  subst hp; exact g.step fun t r => XS.lshr W.here W.exec rfl (hb W.bytes hd) rfl r
theorem go_lushr (W : On k Z n0 E T h cells slots) {x : Int64} {y : Int32} (hd : decode k.bytes pc = .ok (.lushr, 1))  (hp : pc + 1 = pc') (g : Go E G (Fm E T pc' Ls (.long ((x.toUInt64 >>> (y &&& 0x3f).toInt64.toUInt64).toInt64) :: st))) : Go E G (Fm E T pc Ls (.int y :: .long x :: st)) := by
  subst hp; exact g.step fun t r => XS.lushr W.here W.exec rfl (hb W.bytes hd) rfl r
theorem go_i2l (W : On k Z n0 E T h cells slots) {x : Int32} (hd : decode k.bytes pc = .ok (.i2l, 1))  (hp : pc + 1 = pc') (g : Go E G (Fm E T pc' Ls (.long (x.toInt64) :: st))) : Go E G (Fm E T pc Ls (.int x :: st)) := by
  subst hp; exact g.step fun t r => XS.i2l W.here W.exec rfl (hb W.bytes hd) rfl r
theorem go_l2i (W : On k Z n0 E T h cells slots) {x : Int64} (hd : decode k.bytes pc = .ok (.l2i, 1))  (hp : pc + 1 = pc') (g : Go E G (Fm E T pc' Ls (.int (x.toInt32) :: st))) : Go E G (Fm E T pc Ls (.long x :: st)) := by
  subst hp; exact g.step fun t r => XS.l2i W.here W.exec rfl (hb W.bytes hd) rfl r
theorem go_i2b (W : On k Z n0 E T h cells slots) {x : Int32} (hd : decode k.bytes pc = .ok (.i2b, 1))  (hp : pc + 1 = pc') (g : Go E G (Fm E T pc' Ls (.int (x.toInt8.toInt32) :: st))) : Go E G (Fm E T pc Ls (.int x :: st)) := by
  subst hp; exact g.step fun t r => XS.i2b W.here W.exec rfl (hb W.bytes hd) rfl r
theorem go_i2s (W : On k Z n0 E T h cells slots) {x : Int32} (hd : decode k.bytes pc = .ok (.i2s, 1))  (hp : pc + 1 = pc') (g : Go E G (Fm E T pc' Ls (.int (x.toInt16.toInt32) :: st))) : Go E G (Fm E T pc Ls (.int x :: st)) := by
  subst hp; exact g.step fun t r => XS.i2s W.here W.exec rfl (hb W.bytes hd) rfl r
theorem go_i2c (W : On k Z n0 E T h cells slots) {x : Int32} (hd : decode k.bytes pc = .ok (.i2c, 1))  (hp : pc + 1 = pc') (g : Go E G (Fm E T pc' Ls (.int (x.toUInt32.toUInt16.toUInt32.toInt32) :: st))) : Go E G (Fm E T pc Ls (.int x :: st)) := by
  subst hp; exact g.step fun t r => XS.i2c W.here W.exec rfl (hb W.bytes hd) rfl r
theorem go_lneg (W : On k Z n0 E T h cells slots) {x : Int64} (hd : decode k.bytes pc = .ok (.lneg, 1))  (hp : pc + 1 = pc') (g : Go E G (Fm E T pc' Ls (.long (-x) :: st))) : Go E G (Fm E T pc Ls (.long x :: st)) := by
  subst hp; exact g.step fun t r => XS.lneg W.here W.exec rfl (hb W.bytes hd) rfl r
theorem go_lcmp (W : On k Z n0 E T h cells slots) {x y : Int64} (hd : decode k.bytes pc = .ok (.lcmp, 1))  (hp : pc + 1 = pc') (g : Go E G (Fm E T pc' Ls (.int (lcmpW x y) :: st))) : Go E G (Fm E T pc Ls (.long y :: .long x :: st)) := by
  subst hp; exact g.step fun t r => XS.lcmp W.here W.exec rfl (hb W.bytes hd) rfl r
theorem go_dup (W : On k Z n0 E T h cells slots) {x : Value} (hd : decode k.bytes pc = .ok (.dup, 1)) (hc : x.category = 1) (hp : pc + 1 = pc') (g : Go E G (Fm E T pc' Ls (x :: x :: st))) : Go E G (Fm E T pc Ls (x :: st)) := by
  subst hp; exact g.step fun t r => XS.dup W.here W.exec rfl (hb W.bytes hd) rfl hc r
theorem go_pop (W : On k Z n0 E T h cells slots) {x : Value} (hd : decode k.bytes pc = .ok (.pop, 1)) (hc : x.category = 1) (hp : pc + 1 = pc') (g : Go E G (Fm E T pc' Ls st)) : Go E G (Fm E T pc Ls (x :: st)) := by
  subst hp; exact g.step fun t r => XS.pop W.here W.exec rfl (hb W.bytes hd) rfl hc r
theorem go_dupX1 (W : On k Z n0 E T h cells slots) {x y : Value} (hd : decode k.bytes pc = .ok (.dup_x1, 1)) (hc : x.category = 1) (hc' : y.category = 1) (hp : pc + 1 = pc') (g : Go E G (Fm E T pc' Ls (x :: y :: x :: st))) : Go E G (Fm E T pc Ls (x :: y :: st)) := by
  subst hp; exact g.step fun t r => XS.dupX1 W.here W.exec rfl (hb W.bytes hd) rfl hc hc' r
theorem go_dup2 (W : On k Z n0 E T h cells slots) {x y : Value} (hd : decode k.bytes pc = .ok (.dup2, 1)) (hc : x.category = 1) (hc' : y.category = 1) (hp : pc + 1 = pc') (g : Go E G (Fm E T pc' Ls (x :: y :: x :: y :: st))) : Go E G (Fm E T pc Ls (x :: y :: st)) := by
  subst hp; exact g.step fun t r => XT.dup2 W.here W.exec rfl (hb W.bytes hd) rfl hc hc' r
theorem go_iinc (W : On k Z n0 E T h cells slots) {i : Nat} {cst : Int} {x z : Int32} {l' : Array Slot} (hd : decode k.bytes pc = .ok (.iinc i cst, 3)) (hl : Ls[i]? = some (.val (.int x))) (hz : x + Int32.ofInt cst = z) (hl' : storeLocals Ls i (.int z) = some l') (hp : pc + 3 = pc') (g : Go E G (Fm E T pc' l' st)) : Go E G (Fm E T pc Ls st) := by
  subst hp; exact g.step fun t r => XS.iinc W.here W.exec rfl (hb W.bytes hd) hl (hz.symm ▸ hl') r
theorem go_dupX2 (W : On k Z n0 E T h cells slots) {x y z : Value} (hd : decode k.bytes pc = .ok (.dup_x2, 1)) (h1 : x.category = 1) (h2 : y.category = 1) (h3 : z.category = 1) (hp : pc + 1 = pc') (g : Go E G (Fm E T pc' Ls (x :: y :: z :: x :: st))) : Go E G (Fm E T pc Ls (x :: y :: z :: st)) := by
  subst hp
  refine g.step fun t r => ?_
  have q := W.here; have hx := W.exec; have hd' := hb W.bytes hd
  show Steps E.p.tables E.e E.below (T.setTop { method := E.m, pc := pc, locals := Ls, stack := x :: y :: z :: st, locked := none }) t
  jvm_step q [q.top, hx, hd', h1, h2, h3]
  exact r
theorem go_goto (W : On k Z n0 E T h cells slots) {o : Int} (hd : decode k.bytes pc = .ok (.goto o, 3)) (ho : 0 ≤ (pc : Int) + o) (hp : ((pc : Int) + o).toNat = pc') (g : Go E G (Fm E T pc' Ls st)) : Go E G (Fm E T pc Ls st) := by
  exact g.step fun t r => XS.goto W.here W.exec rfl rfl (hb W.bytes hd) ho hp r
theorem go_icmp_lt (W : On k Z n0 E T h cells slots) {x y : Int32} {o : Int} {pt pf : Nat} (hd : decode k.bytes pc = .ok (.if_icmp .lt o, 3)) (ho : 0 ≤ (pc : Int) + o) (hp : ((pc : Int) + o).toNat = pt) (hq : pc + 3 = pf) (g1 : x < y → Go E G (Fm E T pt Ls st)) (g2 : ¬ x < y → Go E G (Fm E T pf Ls st)) : Go E G (Fm E T pc Ls (.int y :: .int x :: st)) := by
  subst hq
  by_cases q : x < y
  · exact (g1 q).step fun t r => XS.icmpYes W.here W.exec rfl rfl (hb W.bytes hd) rfl (tlt q).1 ho hp r
  · exact (g2 q).step fun t r => XS.icmpNo W.here W.exec rfl (hb W.bytes hd) rfl (flt q).1 r
theorem go_if_lt (W : On k Z n0 E T h cells slots) {x : Int32} {o : Int} {pt pf : Nat} (hd : decode k.bytes pc = .ok (.ifCond .lt o, 3)) (ho : 0 ≤ (pc : Int) + o) (hp : ((pc : Int) + o).toNat = pt) (hq : pc + 3 = pf) (g1 : x < 0 → Go E G (Fm E T pt Ls st)) (g2 : ¬ x < 0 → Go E G (Fm E T pf Ls st)) : Go E G (Fm E T pc Ls (.int x :: st)) := by
  subst hq
  by_cases q : x < 0
  · exact (g1 q).step fun t r => XS.ifYes W.here W.exec rfl rfl (hb W.bytes hd) rfl ((if0 _ _).trans (tlt q).1) ho hp r
  · exact (g2 q).step fun t r => XS.ifNo W.here W.exec rfl (hb W.bytes hd) rfl ((if0 _ _).trans (flt q).1) r
theorem go_icmp_ge (W : On k Z n0 E T h cells slots) {x y : Int32} {o : Int} {pt pf : Nat} (hd : decode k.bytes pc = .ok (.if_icmp .ge o, 3)) (ho : 0 ≤ (pc : Int) + o) (hp : ((pc : Int) + o).toNat = pt) (hq : pc + 3 = pf) (g1 : ¬ x < y → Go E G (Fm E T pt Ls st)) (g2 : x < y → Go E G (Fm E T pf Ls st)) : Go E G (Fm E T pc Ls (.int y :: .int x :: st)) := by
  subst hq
  by_cases q : ¬ x < y
  · exact (g1 q).step fun t r => XS.icmpYes W.here W.exec rfl rfl (hb W.bytes hd) rfl (flt q).2.1 ho hp r
  · replace q := Decidable.not_not.mp q; exact (g2 q).step fun t r => XS.icmpNo W.here W.exec rfl (hb W.bytes hd) rfl (tlt q).2.1 r
theorem go_if_ge (W : On k Z n0 E T h cells slots) {x : Int32} {o : Int} {pt pf : Nat} (hd : decode k.bytes pc = .ok (.ifCond .ge o, 3)) (ho : 0 ≤ (pc : Int) + o) (hp : ((pc : Int) + o).toNat = pt) (hq : pc + 3 = pf) (g1 : ¬ x < 0 → Go E G (Fm E T pt Ls st)) (g2 : x < 0 → Go E G (Fm E T pf Ls st)) : Go E G (Fm E T pc Ls (.int x :: st)) := by
  subst hq
  by_cases q : ¬ x < 0
  · exact (g1 q).step fun t r => XS.ifYes W.here W.exec rfl rfl (hb W.bytes hd) rfl ((if0 _ _).trans (flt q).2.1) ho hp r
  · replace q := Decidable.not_not.mp q; exact (g2 q).step fun t r => XS.ifNo W.here W.exec rfl (hb W.bytes hd) rfl ((if0 _ _).trans (tlt q).2.1) r
theorem go_icmp_gt (W : On k Z n0 E T h cells slots) {x y : Int32} {o : Int} {pt pf : Nat} (hd : decode k.bytes pc = .ok (.if_icmp .gt o, 3)) (ho : 0 ≤ (pc : Int) + o) (hp : ((pc : Int) + o).toNat = pt) (hq : pc + 3 = pf) (g1 : y < x → Go E G (Fm E T pt Ls st)) (g2 : ¬ y < x → Go E G (Fm E T pf Ls st)) : Go E G (Fm E T pc Ls (.int y :: .int x :: st)) := by
  subst hq
  by_cases q : y < x
  · exact (g1 q).step fun t r => XS.icmpYes W.here W.exec rfl rfl (hb W.bytes hd) rfl (tlt q).2.2.1 ho hp r
  · exact (g2 q).step fun t r => XS.icmpNo W.here W.exec rfl (hb W.bytes hd) rfl (flt q).2.2.1 r
theorem go_if_gt (W : On k Z n0 E T h cells slots) {x : Int32} {o : Int} {pt pf : Nat} (hd : decode k.bytes pc = .ok (.ifCond .gt o, 3)) (ho : 0 ≤ (pc : Int) + o) (hp : ((pc : Int) + o).toNat = pt) (hq : pc + 3 = pf) (g1 : 0 < x → Go E G (Fm E T pt Ls st)) (g2 : ¬ 0 < x → Go E G (Fm E T pf Ls st)) : Go E G (Fm E T pc Ls (.int x :: st)) := by
  subst hq
  by_cases q : 0 < x
  · exact (g1 q).step fun t r => XS.ifYes W.here W.exec rfl rfl (hb W.bytes hd) rfl ((if0 _ _).trans (tlt q).2.2.1) ho hp r
  · exact (g2 q).step fun t r => XS.ifNo W.here W.exec rfl (hb W.bytes hd) rfl ((if0 _ _).trans (flt q).2.2.1) r
theorem go_icmp_le (W : On k Z n0 E T h cells slots) {x y : Int32} {o : Int} {pt pf : Nat} (hd : decode k.bytes pc = .ok (.if_icmp .le o, 3)) (ho : 0 ≤ (pc : Int) + o) (hp : ((pc : Int) + o).toNat = pt) (hq : pc + 3 = pf) (g1 : ¬ y < x → Go E G (Fm E T pt Ls st)) (g2 : y < x → Go E G (Fm E T pf Ls st)) : Go E G (Fm E T pc Ls (.int y :: .int x :: st)) := by
  subst hq
  by_cases q : ¬ y < x
  · exact (g1 q).step fun t r => XS.icmpYes W.here W.exec rfl rfl (hb W.bytes hd) rfl (flt q).2.2.2 ho hp r
  · replace q := Decidable.not_not.mp q; exact (g2 q).step fun t r => XS.icmpNo W.here W.exec rfl (hb W.bytes hd) rfl (tlt q).2.2.2 r
theorem go_if_le (W : On k Z n0 E T h cells slots) {x : Int32} {o : Int} {pt pf : Nat} (hd : decode k.bytes pc = .ok (.ifCond .le o, 3)) (ho : 0 ≤ (pc : Int) + o) (hp : ((pc : Int) + o).toNat = pt) (hq : pc + 3 = pf) (g1 : ¬ 0 < x → Go E G (Fm E T pt Ls st)) (g2 : 0 < x → Go E G (Fm E T pf Ls st)) : Go E G (Fm E T pc Ls (.int x :: st)) := by
  subst hq
  by_cases q : ¬ 0 < x
  · exact (g1 q).step fun t r => XS.ifYes W.here W.exec rfl rfl (hb W.bytes hd) rfl ((if0 _ _).trans (flt q).2.2.2) ho hp r
  · replace q := Decidable.not_not.mp q; exact (g2 q).step fun t r => XS.ifNo W.here W.exec rfl (hb W.bytes hd) rfl ((if0 _ _).trans (tlt q).2.2.2) r
theorem go_icmp_eq (W : On k Z n0 E T h cells slots) {x y : Int32} {o : Int} {pt pf : Nat} (hd : decode k.bytes pc = .ok (.if_icmp .eq o, 3)) (ho : 0 ≤ (pc : Int) + o) (hp : ((pc : Int) + o).toNat = pt) (hq : pc + 3 = pf) (g1 : x = y → Go E G (Fm E T pt Ls st)) (g2 : ¬ x = y → Go E G (Fm E T pf Ls st)) : Go E G (Fm E T pc Ls (.int y :: .int x :: st)) := by
  subst hq
  by_cases q : x = y
  · exact (g1 q).step fun t r => XS.icmpYes W.here W.exec rfl rfl (hb W.bytes hd) rfl (teq q).1 ho hp r
  · exact (g2 q).step fun t r => XS.icmpNo W.here W.exec rfl (hb W.bytes hd) rfl (feq q).1 r
theorem go_if_eq (W : On k Z n0 E T h cells slots) {x : Int32} {o : Int} {pt pf : Nat} (hd : decode k.bytes pc = .ok (.ifCond .eq o, 3)) (ho : 0 ≤ (pc : Int) + o) (hp : ((pc : Int) + o).toNat = pt) (hq : pc + 3 = pf) (g1 : x = 0 → Go E G (Fm E T pt Ls st)) (g2 : ¬ x = 0 → Go E G (Fm E T pf Ls st)) : Go E G (Fm E T pc Ls (.int x :: st)) := by
  subst hq
  by_cases q : x = 0
  · exact (g1 q).step fun t r => XS.ifYes W.here W.exec rfl rfl (hb W.bytes hd) rfl ((if0 _ _).trans (teq q).1) ho hp r
  · exact (g2 q).step fun t r => XS.ifNo W.here W.exec rfl (hb W.bytes hd) rfl ((if0 _ _).trans (feq q).1) r
theorem go_icmp_ne (W : On k Z n0 E T h cells slots) {x y : Int32} {o : Int} {pt pf : Nat} (hd : decode k.bytes pc = .ok (.if_icmp .ne o, 3)) (ho : 0 ≤ (pc : Int) + o) (hp : ((pc : Int) + o).toNat = pt) (hq : pc + 3 = pf) (g1 : ¬ x = y → Go E G (Fm E T pt Ls st)) (g2 : x = y → Go E G (Fm E T pf Ls st)) : Go E G (Fm E T pc Ls (.int y :: .int x :: st)) := by
  subst hq
  by_cases q : ¬ x = y
  · exact (g1 q).step fun t r => XS.icmpYes W.here W.exec rfl rfl (hb W.bytes hd) rfl (feq q).2 ho hp r
  · replace q := Decidable.not_not.mp q; exact (g2 q).step fun t r => XS.icmpNo W.here W.exec rfl (hb W.bytes hd) rfl (teq q).2 r
theorem go_if_ne (W : On k Z n0 E T h cells slots) {x : Int32} {o : Int} {pt pf : Nat} (hd : decode k.bytes pc = .ok (.ifCond .ne o, 3)) (ho : 0 ≤ (pc : Int) + o) (hp : ((pc : Int) + o).toNat = pt) (hq : pc + 3 = pf) (g1 : ¬ x = 0 → Go E G (Fm E T pt Ls st)) (g2 : x = 0 → Go E G (Fm E T pf Ls st)) : Go E G (Fm E T pc Ls (.int x :: st)) := by
  subst hq
  by_cases q : ¬ x = 0
  · exact (g1 q).step fun t r => XS.ifYes W.here W.exec rfl rfl (hb W.bytes hd) rfl ((if0 _ _).trans (feq q).2) ho hp r
  · replace q := Decidable.not_not.mp q; exact (g2 q).step fun t r => XS.ifNo W.here W.exec rfl (hb W.bytes hd) rfl ((if0 _ _).trans (teq q).2) r
theorem go_acmp_eq (W : On k Z n0 E T h cells slots) {x y : Value} {o : Int} {pt pf : Nat} (hd : decode k.bytes pc = .ok (.if_acmp .eq o, 3)) (h1 : x.isRef = true) (h2 : y.isRef = true) (ho : 0 ≤ (pc : Int) + o) (hp : ((pc : Int) + o).toNat = pt) (hq : pc + 3 = pf) (g1 : x = y → Go E G (Fm E T pt Ls st)) (g2 : ¬ x = y → Go E G (Fm E T pf Ls st)) : Go E G (Fm E T pc Ls (y :: x :: st)) := by
  obtain ⟨C, hh, _, _, _, -, -, -, X⟩ := W
  by_cases q : x = y
  · exact (g1 q).step fun t r => Jvm.RoadKit.acmp (g := mkF E.m pc Ls (y :: x :: st)) X C.1 rfl h1 h2 (pc0 := pc) (pc' := pt) (same := true) rfl (hb C.2.1 hd) rfl (decide_eq_true q) ho hp.symm r
  · exact (g2 q).step fun t r => Jvm.RoadKit.acmp (g := mkF E.m pc Ls (y :: x :: st)) X C.1 rfl h1 h2 (pc0 := pc) (pc' := pf) (same := false) rfl (hb C.2.1 hd) rfl (decide_eq_false q) ho hq.symm r
theorem go_acmp_ne (W : On k Z n0 E T h cells slots) {x y : Value} {o : Int} {pt pf : Nat} (hd : decode k.bytes pc = .ok (.if_acmp .ne o, 3)) (h1 : x.isRef = true) (h2 : y.isRef = true) (ho : 0 ≤ (pc : Int) + o) (hp : ((pc : Int) + o).toNat = pt) (hq : pc + 3 = pf) (g1 : ¬ x = y → Go E G (Fm E T pt Ls st)) (g2 : x = y → Go E G (Fm E T pf Ls st)) : Go E G (Fm E T pc Ls (y :: x :: st)) := by
  obtain ⟨C, hh, _, _, _, -, -, -, X⟩ := W
  by_cases q : x = y
  · exact (g2 q).step fun t r => Jvm.RoadKit.acmp (g := mkF E.m pc Ls (y :: x :: st)) X C.1 rfl h1 h2 (pc0 := pc) (pc' := pf) (same := true) rfl (hb C.2.1 hd) rfl (decide_eq_true q) ho hq.symm r
  · exact (g1 q).step fun t r => Jvm.RoadKit.acmp (g := mkF E.m pc Ls (y :: x :: st)) X C.1 rfl h1 h2 (pc0 := pc) (pc' := pt) (same := false) rfl (hb C.2.1 hd) rfl (decide_eq_false q) ho hp.symm r
theorem go_ifnull_null (W : On k Z n0 E T h cells slots) {o : Int} (hd : decode k.bytes pc = .ok (.ifnull o, 3)) (ho : 0 ≤ (pc : Int) + o) (hp : ((pc : Int) + o).toNat = pc') (g : Go E G (Fm E T pc' Ls st)) : Go E G (Fm E T pc Ls (.null :: st)) :=
  g.step fun t r => XS.ifnullYes W.here W.exec rfl rfl (hb W.bytes hd) rfl ho hp r
theorem go_ifnull_ref (W : On k Z n0 E T h cells slots) {o : Int} {b : Addr} (hd : decode k.bytes pc = .ok (.ifnull o, 3)) (hp : pc + 3 = pc') (g : Go E G (Fm E T pc' Ls st)) : Go E G (Fm E T pc Ls (.ref b :: st)) := by
  subst hp; exact g.step fun t r => XS.ifnullNo W.here W.exec rfl (hb W.bytes hd) rfl r
theorem go_ifnonnull_ref (W : On k Z n0 E T h cells slots) {o : Int} {b : Addr} (hd : decode k.bytes pc = .ok (.ifnonnull o, 3)) (ho : 0 ≤ (pc : Int) + o) (hp : ((pc : Int) + o).toNat = pc') (g : Go E G (Fm E T pc' Ls st)) : Go E G (Fm E T pc Ls (.ref b :: st)) :=
  g.step fun t r => XS.ifnonnullYes W.here W.exec rfl rfl (hb W.bytes hd) rfl ho hp r
theorem go_ifnonnull_null (W : On k Z n0 E T h cells slots) {o : Int} (hd : decode k.bytes pc = .ok (.ifnonnull o, 3)) (hp : pc + 3 = pc') (g : Go E G (Fm E T pc' Ls st)) : Go E G (Fm E T pc Ls (.null :: st)) := by
  subst hp; exact g.step fun t r => XS.ifnonnullNo W.here W.exec rfl (hb W.bytes hd) rfl r
theorem go_tswIn (W : On k Z n0 E T h cells slots) {dflt low high : Int} {offs : Array Int} {len : Nat} {o : Int} {i : Int32} (hd : decode k.bytes pc = .ok (.tableswitch dflt low high offs, len)) (hin : ¬ (i.toInt < low ∨ i.toInt > high)) (hoff : offs[(i.toInt - low).toNat]? = some o) (ho : 0 ≤ (pc : Int) + o) (hp : ((pc : Int) + o).toNat = pc') (g : Go E G (Fm E T pc' Ls st)) : Go E G (Fm E T pc Ls (.int i :: st)) :=
  g.step fun t r => XS.tswIn W.here W.exec rfl rfl (hb W.bytes hd) rfl hin hoff ho hp r
theorem go_tswOut (W : On k Z n0 E T h cells slots) {dflt low high : Int} {offs : Array Int} {len : Nat} {i : Int32} (hd : decode k.bytes pc = .ok (.tableswitch dflt low high offs, len)) (hout : i.toInt < low ∨ i.toInt > high) (ho : 0 ≤ (pc : Int) + dflt) (hp : ((pc : Int) + dflt).toNat = pc') (g : Go E G (Fm E T pc' Ls st)) : Go E G (Fm E T pc Ls (.int i :: st)) :=
  g.step fun t r => XS.tswOut W.here W.exec rfl rfl (hb W.bytes hd) rfl hout ho hp r
theorem go_ldcInt (W : On k Z n0 E T h cells slots) {index : Nat} {v : Int32} (w : (Cond.constant k.y.cls index v).before a0 Z = true) (hd : decode k.bytes pc = .ok (.ldc index, 2)) (hp : pc + 2 = pc') (g : Go E G (Fm E T pc' Ls (.int v :: st))) : Go E G (Fm E T pc Ls st) := by
  obtain ⟨C, hh, _, _, _, -, -, -, X⟩ := W
  subst hp; exact g.step fun t r => X.ldcInt C.1 C.2.2.2.1 (mvT C.2.2.2.2.2.2.1 w) (g := mkF E.m pc Ls st) rfl (hb C.2.1 hd) _ r
theorem go_ldcwInt (W : On k Z n0 E T h cells slots) {index : Nat} {v : Int32} (w : (Cond.constant k.y.cls index v).before a0 Z = true) (hd : decode k.bytes pc = .ok (.ldc_w index, 3)) (hp : pc + 3 = pc') (g : Go E G (Fm E T pc' Ls (.int v :: st))) : Go E G (Fm E T pc Ls st) := by
  obtain ⟨C, hh, _, _, _, -, -, -, X⟩ := W
  subst hp; exact g.step fun t r => X.ldcwInt C.1 C.2.2.2.1 (mvT C.2.2.2.2.2.2.1 w) (g := mkF E.m pc Ls st) rfl (hb C.2.1 hd) _ r
theorem go_ldc2Long (W : On k Z n0 E T h cells slots) {index : Nat} {v : Int64} (w : (Cond.constantLong k.y.cls index v).before a0 Z = true) (hd : decode k.bytes pc = .ok (.ldc2_w index, 3)) (hp : pc + 3 = pc') (g : Go E G (Fm E T pc' Ls (.long v :: st))) : Go E G (Fm E T pc Ls st) := by
  obtain ⟨C, hh, _, _, _, -, -, -, X⟩ := W
  subst hp; exact g.step fun t r => X.ldc2Long C.1 C.2.2.2.1 (mvT C.2.2.2.2.2.2.1 w) (g := mkF E.m pc Ls st) rfl (hb C.2.1 hd) _ r
/-! fields -/
theorem go_getF (W : On k Z n0 E T h cells slots) {R0 O n d host : String} {index : Nat} (w : (Cond.fieldLink k.y.cls index R0 n d).before a0 Z = true ∨ (Cond.fieldLinkNest k.y.cls index R0 n d host).before a0 Z = true) (via : Via Z R0 O n d) {a : Addr} {v : Value} (F : Fld Z h a O n d v)
    (hd : decode k.bytes pc = .ok (.getfield index, 3)) (hp : pc + 3 = pc') (g : ∀ T', On k Z n0 E T' h cells slots → Go E G (Fm E T' pc' Ls (v :: st))) : Go E G (Fm E T pc Ls (.ref a :: st)) := by
  obtain ⟨C, hh, L, a1, b1, ha, hb1, hF, X⟩ := W
  subst hp
  obtain ⟨T', X', e', st'⟩ := getF X C.1 C.2.2.2.2.2.2.1 C.2.2.2.1 w via hh F (g := mkF E.m pc Ls (.ref a :: st)) rfl rfl (hb C.2.1 hd)
  exact (g T' ⟨C, e', L, a1, b1, ha, hb1, hF, X'⟩).step st'
theorem go_getS (W : On k Z n0 E T h cells slots) {R0 O n d host : String} {index : Nat} (w : (Cond.fieldLink k.y.cls index R0 n d).before a0 Z = true ∨ (Cond.fieldLinkNest k.y.cls index R0 n d host).before a0 Z = true) (via : Via Z R0 O n d) {v : Value} (F : Sta Z h O n d v)
    (hd : decode k.bytes pc = .ok (.getstatic index, 3)) (hp : pc + 3 = pc') (g : ∀ T', On k Z n0 E T' h cells slots → Go E G (Fm E T' pc' Ls (v :: st))) : Go E G (Fm E T pc Ls st) := by
  obtain ⟨C, hh, L, a1, b1, ha, hb1, hF, X⟩ := W
  subst hp
  obtain ⟨T', X', e', st'⟩ := getS2 X C.1 C.2.2.2.2.2.2.1 C.2.2.2.1 w via hh F (g := mkF E.m pc Ls st) rfl (hb C.2.1 hd)
  exact (g T' ⟨C, e', L, a1, b1, ha, hb1, hF, X'⟩).step st'
theorem go_putF (W : On k Z n0 E T h cells slots) {R0 O n d host K : String} {index kk : Nat} {ty : FieldType} (w : (Cond.fieldLink k.y.cls index R0 n d).before a0 Z = true ∨ (Cond.fieldLinkNest k.y.cls index R0 n d host).before a0 Z = true) (via : Via Z R0 O n d) {a : Addr} {v old : Value} (F : Fld Z h a O n d old) (Ex : Exa Z h a K)
    (L : (Cond.lays K O n d).before a0 Z = true ∨ ((Cond.laysFinal K O n d).before a0 Z = true ∧ k.y.cls = O ∧ k.y.name = "<init>")) (wi : (Cond.instantiable K kk).before a0 Z = true) (hty : parseFieldDescriptor d = some ty) (hn : narrow ty v = v) (hf : fits ty v = true) (hn0 : n0 ≤ a)
    (hd : decode k.bytes pc = .ok (.putfield index, 3)) (hp : pc + 3 = pc') (g : ∀ T' h', On k Z n0 E T' h' cells slots → Wr h h' a (Jvm.RoadKit.slotOf Z O n d) v → Go E G (Fm E T' pc' Ls st)) : Go E G (Fm E T pc Ls (v :: .ref a :: st)) := by
  obtain ⟨C, hh, Lc, a1, b1, ha, hb1, hF, X⟩ := W
  subst hp
  obtain ⟨T', h', X', e', W', st'⟩ := putF X C.1 C.2.2.2.2.2.2.1 C.2.2.2.1 w via hh F Ex (L.imp id fun q => ⟨q.1, q.2.1, C.2.2.2.2.2.2.2.1.trans q.2.2⟩) wi hty hn hf (g := mkF E.m pc Ls (v :: .ref a :: st)) rfl rfl (hb C.2.1 hd)
  exact (g T' h' ⟨C, e', _, a1, b1, ha, hb1, Fr.snoc X' hF hn0, X'⟩ W').step st'
theorem go_new (W : On k Z n0 E T h cells slots) {K : String} {index n : Nat} (w : (Cond.classLink k.y.cls index K).before a0 Z = true) (wi : (Cond.instantiable K n).before a0 Z = true) (wz : (Cond.initialized K).before a0 Z = true) (hd : decode k.bytes pc = .ok (.new index, 3)) (hc : cells + 1 ≤ k.rm.cells) (hl : slots + n ≤ k.rm.slots) (hp : pc + 3 = pc')
    (g : ∀ T' h' a, a = h.size → On k Z n0 E T' h' (cells + 1) (slots + n) → Ext h h' → Exa Z h' a K → (∀ {O nm d : String} {ty : FieldType}, Laid Z a0 K O nm d → parseFieldDescriptor d = some ty → Fld Z h' a O nm d (defaultValue ty)) → (∃ cell : Cell, h'[a]? = some cell ∧ cell.vm = .none ∧ cell.monitor = {}) → Go E G (Fm E T' pc' Ls (.ref a :: st))) : Go E G (Fm E T pc Ls st) := by
  obtain ⟨C, hh, L, a1, b1, ha, hb1, hF, X⟩ := W
  subst hp
  obtain ⟨T', h', X', e', E', A', D', M', st'⟩ := newO X C.1 C.2.2.2.2.2.2.1 C.2.2.2.1 w wi wz hh (g := mkF E.m pc Ls st) rfl (hb C.2.1 hd) (Nat.le_trans (Nat.add_le_add_right ha 1) hc) (Nat.le_trans (Nat.add_le_add_right hb1 n) hl)
  exact (g T' h' _ rfl ⟨C, e', L, _, _, Nat.add_le_add_right ha 1, Nat.add_le_add_right hb1 n, hF, X'⟩ E' A' D' M').step st'
theorem go_initO (W : On k Z n0 E T h cells slots) {index : Nat} (w1 : (Cond.methodLink k.y.cls index Lib.objectInit).before a0 Z = true) (w2 : (Cond.instanceMethod Lib.objectInit).before a0 Z = true) (w3 : (Cond.code Lib.objectInit ⟨#[0xb1]⟩ 1 none).before a0 Z = true) {a : Addr} (hd : decode k.bytes pc = .ok (.invokespecial index, 3)) (hm : Ls.size = k.maxL) (hf : 1 ≤ k.rm.frames) (hl : (st.map fun v => v.category).sum + 12 ≤ k.rm.locals) (hp : pc + 3 = pc')
    (g : ∀ T', On k Z n0 E T' h cells slots → Go E G (Fm E T' pc' Ls st)) : Go E G (Fm E T pc Ls (.ref a :: st)) := by
  obtain ⟨C, hh, L, a1, b1, ha, hb1, hF, X⟩ := W
  subst hp
  obtain ⟨T', X', e', st'⟩ := initO X C.1 C.2.2.2.2.2.2.1 C.2.2.2.1 w1 w2 w3 hh (g := mkF E.m pc Ls (.ref a :: st)) rfl (hm.trans C.2.2.1.symm) rfl (hb C.2.1 hd) hf (W := (st.map fun v => v.category).sum) (by show 2 * 0 + _ ≤ _; omega) hl
  exact (g T' ⟨C, e', L, a1, b1, ha, hb1, hF, X'⟩).step st'
theorem go_castY (W : On k Z n0 E T h cells slots) {K : String} {index : Nat} (w : (Cond.classLink k.y.cls index K).before a0 Z = true) {a : Addr} (F : Ins Z h a K true) (hd : decode k.bytes pc = .ok (.checkcast index, 3)) (hp : pc + 3 = pc') (g : ∀ T', On k Z n0 E T' h cells slots → Go E G (Fm E T' pc' Ls (.ref a :: st))) : Go E G (Fm E T pc Ls (.ref a :: st)) := by
  obtain ⟨C, hh, L, a1, b1, ha, hb1, hF, X⟩ := W
  subst hp
  obtain ⟨T', X', e', st'⟩ := castY X C.1 C.2.2.2.2.2.2.1 C.2.2.2.1 w hh F (g := mkF E.m pc Ls (.ref a :: st)) rfl rfl (hb C.2.1 hd)
  exact (g T' ⟨C, e', L, a1, b1, ha, hb1, hF, X'⟩).step st'
theorem go_instY (W : On k Z n0 E T h cells slots) {K : String} {index : Nat} (w : (Cond.classLink k.y.cls index K).before a0 Z = true) {a : Addr} (F : Ins Z h a K true) (hd : decode k.bytes pc = .ok (.instanceof index, 3)) (hp : pc + 3 = pc') (g : ∀ T', On k Z n0 E T' h cells slots → Go E G (Fm E T' pc' Ls (.int 1 :: st))) : Go E G (Fm E T pc Ls (.ref a :: st)) := by
  obtain ⟨C, hh, L, a1, b1, ha, hb1, hF, X⟩ := W
  subst hp
  obtain ⟨T', X', e', st'⟩ := instY X C.1 C.2.2.2.2.2.2.1 C.2.2.2.1 w hh F (g := mkF E.m pc Ls (.ref a :: st)) rfl rfl (hb C.2.1 hd)
  exact (g T' ⟨C, e', L, a1, b1, ha, hb1, hF, X'⟩).step st'
/-! arrays -/
theorem go_newP (W : On k Z n0 E T h cells slots) {aty : ArrayType} (w : (Cond.arrayClass (newarray.typeOf aty)).before a0 Z = true) {n : Int32} (hd : decode k.bytes pc = .ok (.newarray aty, 2)) (hn : ¬ n < 0) (cap : Nat) (hcap : n.toNatClampNeg ≤ cap) (hb8 : cap * 8 ≤ 536870912) (hc : cells + 1 ≤ k.rm.cells) (hl : slots + cap ≤ k.rm.slots) (hp : pc + 2 = pc')
    (g : ∀ T' h' cA a, a = h.size → On k Z n0 E T' h' (cells + 1) (slots + cap) → Ext h h' → Arr Z h' a (newA cA (newarray.typeOf aty) n) (newarray.typeOf aty) → Go E G (Fm E T' pc' Ls (.ref a :: st))) : Go E G (Fm E T pc Ls (.int n :: st)) := by
  obtain ⟨C, hh, L, a1, b1, ha, hb1, hF, X⟩ := W
  subst hp
  obtain ⟨T', h', cA, X', e', E', A', st'⟩ := newP X C.1 C.2.2.2.2.2.2.1 w hh (g := mkF E.m pc Ls (.int n :: st)) rfl (hb C.2.1 hd) rfl hn hcap hb8 (Nat.le_trans (Nat.add_le_add_right ha 1) hc) (Nat.le_trans (Nat.add_le_add_right hb1 cap) hl)
  exact (g T' h' cA _ rfl ⟨C, e', L, _, _, Nat.add_le_add_right ha 1, Nat.add_le_add_right hb1 cap, hF, X'⟩ E' A').step st'
theorem go_arraylength (W : On k Z n0 E T h cells slots) {a : Addr} {cl : Cell} {ty : FieldType} {z : Int32} (A : Arr Z h a cl ty) (hz : cl.slots.size.toInt32 = z) (hd : decode k.bytes pc = .ok (.arraylength, 1)) (hp : pc + 1 = pc') (g : Go E G (Fm E T pc' Ls (.int z :: st))) : Go E G (Fm E T pc Ls (.ref a :: st)) := by
  obtain ⟨C, hh, L, a1, b1, ha, hb1, hF, X⟩ := W
  subst hp; subst hz
  exact g.step fun t r => X.arraylength C.1 (by rw [hh]; exact A.1) (State.isArrayOf_alike C.2.2.2.2.2.2.1.alike A.2.1) (g := mkF E.m pc Ls (.ref a :: st)) rfl rfl (hb C.2.1 hd) _ r
theorem go_stI (W : On k Z n0 E T h cells slots) {a : Addr} {cl : Cell} (A : Arr Z h a cl .int) {j : Int32} {x : Int32} (hj : ¬ (j < 0 ∨ cl.slots.size ≤ j.toNatClampNeg)) (hn0 : n0 ≤ a) (hd : decode k.bytes pc = .ok (.iastore, 1)) (hp : pc + 1 = pc') (g : ∀ T' h', On k Z n0 E T' h' cells slots → Wr h h' a j.toNatClampNeg (.int x) → Go E G (Fm E T' pc' Ls st)) : Go E G (Fm E T pc Ls (.int x :: .int j :: .ref a :: st)) := by
  obtain ⟨C, hh, L, a1, b1, ha, hb1, hF, X⟩ := W
  subst hp
  obtain ⟨T', h', X', e', W', st'⟩ := stI X C.1 C.2.2.2.2.2.2.1 hh A hj (g := mkF E.m pc Ls (.int x :: .int j :: .ref a :: st)) rfl rfl (hb C.2.1 hd)
  exact (g T' h' ⟨C, e', _, a1, b1, ha, hb1, Fr.snoc X' hF hn0, X'⟩ W').step st'
theorem go_stJ (W : On k Z n0 E T h cells slots) {a : Addr} {cl : Cell} (A : Arr Z h a cl .long) {j : Int32} {x : Int64} (hj : ¬ (j < 0 ∨ cl.slots.size ≤ j.toNatClampNeg)) (hn0 : n0 ≤ a) (hd : decode k.bytes pc = .ok (.lastore, 1)) (hp : pc + 1 = pc') (g : ∀ T' h', On k Z n0 E T' h' cells slots → Wr h h' a j.toNatClampNeg (.long x) → Go E G (Fm E T' pc' Ls st)) : Go E G (Fm E T pc Ls (.long x :: .int j :: .ref a :: st)) := by
  obtain ⟨C, hh, L, a1, b1, ha, hb1, hF, X⟩ := W
  subst hp
  obtain ⟨T', h', X', e', W', st'⟩ := stJ X C.1 C.2.2.2.2.2.2.1 hh A hj (g := mkF E.m pc Ls (.long x :: .int j :: .ref a :: st)) rfl rfl (hb C.2.1 hd)
  exact (g T' h' ⟨C, e', _, a1, b1, ha, hb1, Fr.snoc X' hF hn0, X'⟩ W').step st'
theorem go_stC (W : On k Z n0 E T h cells slots) {a : Addr} {cl : Cell} (A : Arr Z h a cl .char) {j : Int32} {x : Int32} (hj : ¬ (j < 0 ∨ cl.slots.size ≤ j.toNatClampNeg)) (hn0 : n0 ≤ a) (hd : decode k.bytes pc = .ok (.castore, 1)) (hp : pc + 1 = pc') (g : ∀ T' h', On k Z n0 E T' h' cells slots → Wr h h' a j.toNatClampNeg (.int (nar .char x)) → Go E G (Fm E T' pc' Ls st)) : Go E G (Fm E T pc Ls (.int x :: .int j :: .ref a :: st)) := by
  obtain ⟨C, hh, L, a1, b1, ha, hb1, hF, X⟩ := W
  subst hp
  obtain ⟨T', h', X', e', W', st'⟩ := stC X C.1 C.2.2.2.2.2.2.1 hh A hj (g := mkF E.m pc Ls (.int x :: .int j :: .ref a :: st)) rfl rfl (hb C.2.1 hd)
  exact (g T' h' ⟨C, e', _, a1, b1, ha, hb1, Fr.snoc X' hF hn0, X'⟩ W').step st'
theorem go_stB (W : On k Z n0 E T h cells slots) {a : Addr} {cl : Cell} (A : Arr Z h a cl .byte) {j : Int32} {x : Int32} (hj : ¬ (j < 0 ∨ cl.slots.size ≤ j.toNatClampNeg)) (hn0 : n0 ≤ a) (hd : decode k.bytes pc = .ok (.bastore, 1)) (hp : pc + 1 = pc') (g : ∀ T' h', On k Z n0 E T' h' cells slots → Wr h h' a j.toNatClampNeg (.int (nar .byte x)) → Go E G (Fm E T' pc' Ls st)) : Go E G (Fm E T pc Ls (.int x :: .int j :: .ref a :: st)) := by
  obtain ⟨C, hh, L, a1, b1, ha, hb1, hF, X⟩ := W
  subst hp
  obtain ⟨T', h', X', e', W', st'⟩ := stB X C.1 C.2.2.2.2.2.2.1 hh A hj (g := mkF E.m pc Ls (.int x :: .int j :: .ref a :: st)) rfl rfl (hb C.2.1 hd)
  exact (g T' h' ⟨C, e', _, a1, b1, ha, hb1, Fr.snoc X' hF hn0, X'⟩ W').step st'
theorem go_stZ (W : On k Z n0 E T h cells slots) {a : Addr} {cl : Cell} (A : Arr Z h a cl .boolean) {j : Int32} {x : Int32} (hj : ¬ (j < 0 ∨ cl.slots.size ≤ j.toNatClampNeg)) (hn0 : n0 ≤ a) (hd : decode k.bytes pc = .ok (.bastore, 1)) (hp : pc + 1 = pc') (g : ∀ T' h', On k Z n0 E T' h' cells slots → Wr h h' a j.toNatClampNeg (.int (nar .boolean x)) → Go E G (Fm E T' pc' Ls st)) : Go E G (Fm E T pc Ls (.int x :: .int j :: .ref a :: st)) := by
  obtain ⟨C, hh, L, a1, b1, ha, hb1, hF, X⟩ := W
  subst hp
  obtain ⟨T', h', X', e', W', st'⟩ := stZ X C.1 C.2.2.2.2.2.2.1 hh A hj (g := mkF E.m pc Ls (.int x :: .int j :: .ref a :: st)) rfl rfl (hb C.2.1 hd)
  exact (g T' h' ⟨C, e', _, a1, b1, ha, hb1, Fr.snoc X' hF hn0, X'⟩ W').step st'
theorem go_iaload (W : On k Z n0 E T h cells slots) {a : Addr} {cl : Cell} (A : Arr Z h a cl .int) {j : Int32} {v : Value} (hj : ¬ (j < 0 ∨ cl.slots.size ≤ j.toNatClampNeg)) (hat : cl.slots[j.toNatClampNeg]? = some v) (hd : decode k.bytes pc = .ok (.iaload, 1)) (hp : pc + 1 = pc') (g : Go E G (Fm E T pc' Ls (v :: st))) : Go E G (Fm E T pc Ls (.int j :: .ref a :: st)) := by
  obtain ⟨C, hh, L, a1, b1, ha, hb1, hF, X⟩ := W
  subst hp
  exact g.step fun t r => X.iaload C.1 (j := j) (v := v) (by rw [hh]; exact A.1) (State.isArrayOf_alike C.2.2.2.2.2.2.1.alike A.2.1) A.2.2 hj hat (g := mkF E.m pc Ls (.int j :: .ref a :: st)) rfl rfl (hb C.2.1 hd) _ r
theorem go_laload (W : On k Z n0 E T h cells slots) {a : Addr} {cl : Cell} (A : Arr Z h a cl .long) {j : Int32} {v : Value} (hj : ¬ (j < 0 ∨ cl.slots.size ≤ j.toNatClampNeg)) (hat : cl.slots[j.toNatClampNeg]? = some v) (hd : decode k.bytes pc = .ok (.laload, 1)) (hp : pc + 1 = pc') (g : Go E G (Fm E T pc' Ls (v :: st))) : Go E G (Fm E T pc Ls (.int j :: .ref a :: st)) := by
  obtain ⟨C, hh, L, a1, b1, ha, hb1, hF, X⟩ := W
  subst hp
  exact g.step fun t r => X.laload C.1 (j := j) (v := v) (by rw [hh]; exact A.1) (State.isArrayOf_alike C.2.2.2.2.2.2.1.alike A.2.1) A.2.2 hj hat (g := mkF E.m pc Ls (.int j :: .ref a :: st)) rfl rfl (hb C.2.1 hd) _ r
theorem go_caload (W : On k Z n0 E T h cells slots) {a : Addr} {cl : Cell} (A : Arr Z h a cl .char) {j : Int32} {v : Value} (hj : ¬ (j < 0 ∨ cl.slots.size ≤ j.toNatClampNeg)) (hat : cl.slots[j.toNatClampNeg]? = some v) (hd : decode k.bytes pc = .ok (.caload, 1)) (hp : pc + 1 = pc') (g : Go E G (Fm E T pc' Ls (v :: st))) : Go E G (Fm E T pc Ls (.int j :: .ref a :: st)) := by
  obtain ⟨C, hh, L, a1, b1, ha, hb1, hF, X⟩ := W
  subst hp
  exact g.step fun t r => X.caload C.1 (j := j) (v := v) (by rw [hh]; exact A.1) (State.isArrayOf_alike C.2.2.2.2.2.2.1.alike A.2.1) A.2.2 hj hat (g := mkF E.m pc Ls (.int j :: .ref a :: st)) rfl rfl (hb C.2.1 hd) _ r
theorem go_baload (W : On k Z n0 E T h cells slots) {a : Addr} {cl : Cell} (A : Arr Z h a cl .byte) {j : Int32} {v : Value} (hj : ¬ (j < 0 ∨ cl.slots.size ≤ j.toNatClampNeg)) (hat : cl.slots[j.toNatClampNeg]? = some v) (hd : decode k.bytes pc = .ok (.baload, 1)) (hp : pc + 1 = pc') (g : Go E G (Fm E T pc' Ls (v :: st))) : Go E G (Fm E T pc Ls (.int j :: .ref a :: st)) := by
  obtain ⟨C, hh, L, a1, b1, ha, hb1, hF, X⟩ := W
  subst hp
  exact g.step fun t r => X.baloadBytes C.1 (j := j) (v := v) (by rw [hh]; exact A.1) (State.isArrayOf_alike C.2.2.2.2.2.2.1.alike A.2.1) A.2.2 hj hat (g := mkF E.m pc Ls (.int j :: .ref a :: st)) rfl rfl (hb C.2.1 hd) _ r
theorem go_aaload (W : On k Z n0 E T h cells slots) {a : Addr} {cl : Cell} {ty : FieldType} (A : Arr Z h a cl ty) (hty : ty.isReference = true) {j : Int32} {v : Value} (hj : ¬ (j < 0 ∨ cl.slots.size ≤ j.toNatClampNeg)) (hat : cl.slots[j.toNatClampNeg]? = some v) (hd : decode k.bytes pc = .ok (.aaload, 1)) (hp : pc + 1 = pc') (g : Go E G (Fm E T pc' Ls (v :: st))) : Go E G (Fm E T pc Ls (.int j :: .ref a :: st)) := by
  obtain ⟨C, hh, L, a1, b1, ha, hb1, hF, X⟩ := W
  subst hp
  exact g.step fun t r => X.aaload C.1 (j := j) (v := v) (by rw [hh]; exact A.1) (State.isArrayOf_alike C.2.2.2.2.2.2.1.alike A.2.1) hty A.2.2 hj hat (g := mkF E.m pc Ls (.int j :: .ref a :: st)) rfl rfl (hb C.2.1 hd) _ r
/-! the end -/
def EndQ (s : State) (n0 : Nat) (Q : Option Value → Heap → Prop) (C N : Nat) : State → Outcome → Prop := fun t o => ∃ v L, o = .returned v ∧ (Q v t.heap ∧ Fr n0 L) ∧ FrameEnd s o t L C N
/-- a method's contract: from the heap h0, with these arguments, it returns, and Q holds of what it hands back and of the heap that it leaves -/
def Ct (l : Launch) (Z : State) (k : Mt) (as' : Array Value) (h0 : Heap) (n0 : Nat) (Q : Option Value → Heap → Prop) : Prop :=
  ∀ ws, MetFree l k.y (head1 (Cond.code k.y k.bytes k.maxL k.ret :: ws) k.rm) (fun a U => a = as' ∧ Z.Warmed39 U.vm ∧ U.heap = h0) (fun _ _ _ _ _ => True) (fun _ U o U' => ∃ v L, o = .returned v ∧ (Q v U'.heap ∧ Fr n0 L) ∧ FrameEnd U o U' L k.rm.cells k.rm.slots)
theorem Ct.of {l : Launch} {as' : Array Value} {h0 : Heap} {Q : Option Value → Heap → Prop} (hpl : plainFor k.y = true) (ef : ∀ m, entryFrame m as' k.maxL = mkF m 0 Ls []) (body : ∀ (E : Cx) (T : State), On k Z n0 E T h0 0 0 → Go E (EndQ E.s n0 Q k.rm.cells k.rm.slots) (Fm E T 0 Ls [])) : Ct l Z k as' h0 n0 Q := fun ws => by
  refine MetFree.of_bodySF hpl hisR ?_
  intro p e s m args below meth c s₁ Bd hml0 hP hK
  obtain ⟨rfl, hZ, hh⟩ := hP
  have X0 : Stand p l e k.rm s m args below meth c s₁ [] 0 0 := Stand.of_body Bd
  obtain ⟨s₂, o, h1, h2, h3, h4⟩ := body (p, l, e, s, m, args, below, meth, c) s₁ ⟨⟨Bd.exec, Bd.bytes, hml0, findClass_of_methodNamed Bd.named, Bd.returns, Bd.notSynchronized, hZ, (name_of_methodNamed Bd.named Bd.method).1, Bd.named⟩, by rw [← hh, Bd.state]; rfl, [], 0, 0, Nat.le_refl _, Nat.le_refl _, Fr.nil n0, X0⟩
  exact ⟨s₂, o, castTop (ef m) h1, h2, h3, h4⟩
theorem Ct.mono {l : Launch} {as' : Array Value} {h0 : Heap} {Q Q' : Option Value → Heap → Prop} (c : Ct l Z k as' h0 n0 Q) (q : ∀ v h, Q v h → Q' v h) : Ct l Z k as' h0 n0 Q' := fun ws p e ha hc hk s m args below hf happ hP hK => by
  obtain ⟨n, o, h1, h2, h3, v, L, h4, h5, h6⟩ := c ws p e ha hc hk s m args below hf happ hP hK
  exact ⟨n, o, h1, h2, h3, v, L, h4, ⟨q _ _ h5.1, h5.2⟩, h6⟩
theorem go_ret (W : On k Z n0 E T h cells slots) {Q : Option Value → Heap → Prop} {C N : Nat} {w : Value} {t : FieldType} {i : Instr} (hret : k.ret = some t) (hn : narrow t w = w)
    (hi : (i = .ireturn ∧ (t = .int ∨ t = .boolean ∨ t = .byte ∨ t = .char ∨ t = .short) ∧ ∃ z, w = .int z) ∨ (i = .lreturn ∧ t = .long ∧ ∃ z, w = .long z) ∨ (i = .dreturn ∧ t = .double ∧ ∃ z, w = .double z) ∨ (i = .freturn ∧ t = .float ∧ ∃ z, w = .float z) ∨ (i = .areturn ∧ t.isReference = true ∧ w.isRef = true))
    (hd : decode k.bytes pc = .ok (i, 1)) (hC : cells ≤ C) (hN : slots ≤ N) (hq : Q (some w) h) : Go E (EndQ E.s n0 Q C N) (Fm E T pc Ls (w :: st)) := by
  obtain ⟨⟨c1, c2, c3, c4, c5, c6, c7, c8, c9⟩, hh, L, a1, b1, ha, hb1, hF, X⟩ := W
  have hr : E.meth.sig.returnType = some t := c5.trans hret
  obtain ⟨fs, hr', hrun, hended, hW, hsame⟩ := X.leave (v := some w) (fun h => by rw [hr] at h; cases h) c6
  exact ⟨_, _, retOut X c1 hr hn hi (hb c2 hd) hr', hrun, hended, some w, L, rfl, ⟨by show Q (some w) T.heap; rw [hh]; exact hq, hF⟩, ⟨_, rfl⟩, hW, hsame.mono (Nat.le_trans ha hC) (Nat.le_trans hb1 hN)⟩
theorem go_retI (W : On k Z n0 E T h cells slots) {Q : Option Value → Heap → Prop} {C N : Nat} {w : Int32} {t : FieldType} (hret : k.ret = some t) (ht : t = .int ∨ t = .boolean ∨ t = .byte ∨ t = .char ∨ t = .short) (hn : narrow t (.int w) = .int w) (hd : decode k.bytes pc = .ok (.ireturn, 1)) (hC : cells ≤ C) (hN : slots ≤ N) (hq : Q (some (.int w)) h) : Go E (EndQ E.s n0 Q C N) (Fm E T pc Ls (.int w :: st)) :=
  go_ret W hret hn (Or.inl ⟨rfl, ht, _, rfl⟩) hd hC hN hq
theorem go_retL (W : On k Z n0 E T h cells slots) {Q : Option Value → Heap → Prop} {C N : Nat} {w : Int64} (hret : k.ret = some .long) (hd : decode k.bytes pc = .ok (.lreturn, 1)) (hC : cells ≤ C) (hN : slots ≤ N) (hq : Q (some (.long w)) h) : Go E (EndQ E.s n0 Q C N) (Fm E T pc Ls (.long w :: st)) :=
  go_ret W hret rfl (Or.inr (Or.inl ⟨rfl, rfl, _, rfl⟩)) hd hC hN hq
theorem go_retA (W : On k Z n0 E T h cells slots) {Q : Option Value → Heap → Prop} {C N : Nat} {w : Value} {t : FieldType} (hret : k.ret = some t) (ht : t.isReference = true) (hw : w.isRef = true) (hn : narrow t w = w) (hd : decode k.bytes pc = .ok (.areturn, 1)) (hC : cells ≤ C) (hN : slots ≤ N) (hq : Q (some w) h) : Go E (EndQ E.s n0 Q C N) (Fm E T pc Ls (w :: st)) :=
  go_ret W hret hn (Or.inr (Or.inr (Or.inr (Or.inr ⟨rfl, ht, hw⟩)))) hd hC hN hq
theorem go_retV (W : On k Z n0 E T h cells slots) {Q : Option Value → Heap → Prop} {C N : Nat} (hret : k.ret = none) (hd : decode k.bytes pc = .ok (.return_, 1)) (hC : cells ≤ C) (hN : slots ≤ N) (hq : Q none h) : Go E (EndQ E.s n0 Q C N) (Fm E T pc Ls []) := by
  obtain ⟨⟨c1, c2, c3, c4, c5, c6, c7, c8, c9⟩, hh, L, a1, b1, ha, hb1, hF, X⟩ := W
  have hr : E.meth.sig.returnType = none := c5.trans hret
  obtain ⟨fs, hr', hrun, hended, hW, hsame⟩ := X.leave (v := none) (fun _ => rfl) c6
  exact ⟨_, _, X.returnOut c1 hr (hb c2 hd) hr', hrun, hended, none, L, rfl, ⟨by show Q none T.heap; rw [hh]; exact hq, hF⟩, ⟨_, rfl⟩, hW, hsame.mono (Nat.le_trans ha hC) (Nat.le_trans hb1 hN)⟩
/-! calls: by the callee's contract -/
theorem Ct.back {kc : Mt} {as' : Array Value} {Q : Option Value → Heap → Prop} (c : Ct E.l Z kc as' h n0 Q) (hZ : Z.Warmed39 E.s.vm) (wc : (Cond.code kc.y kc.bytes kc.maxL kc.ret).before a0 Z = true) (wz : (Cond.initialized kc.y.cls).before a0 Z = true) {W len : Nat} (hf : kc.rm.frames + 1 ≤ k.rm.frames) (hl : W + (kc.maxL + 11) + kc.rm.locals ≤ k.rm.locals) :
    Back E.l k.rm E.p E.e E.below E.s E.args kc.y len W (fun A a => a = as' ∧ A.U.heap = h ∧ A.cells + kc.rm.cells ≤ k.rm.cells ∧ A.slots + kc.rm.slots ≤ k.rm.slots)
      (fun A _ v B => ∃ L, (Q v B.U.heap ∧ Fr n0 L) ∧ B.locs = A.locs ++ L ∧ B.cells = A.cells + kc.rm.cells ∧ B.slots = A.slots + kc.rm.slots) :=
  backOf (Q := fun v h L => Q v h ∧ Fr n0 L) (c []) hZ wc wz hf hl
theorem go_callS (W : On k Z n0 E T h cells slots) {kc : Mt} {index : Nat} {argsL rest : List Value} {ps : List FieldType} {r : Option FieldType} {Q : Option Value → Heap → Prop} (w1 : (Cond.methodLink k.y.cls index kc.y).before a0 Z = true) (w2 : (Cond.static kc.y).before a0 Z = true) (w3 : (Cond.initialized kc.y.cls).before a0 Z = true) (w4 : (Cond.code kc.y kc.bytes kc.maxL kc.ret).before a0 Z = true)
    (c : Ct E.l Z kc argsL.toArray h n0 Q) (hy : kc.y.cls ≠ "java/lang/invoke/MethodHandle" ∧ kc.y.cls ≠ "java/lang/invoke/VarHandle") (hdesc : parseMethodDescriptor kc.y.desc = some ⟨ps, r⟩) (hlen : argsL.length = ps.length) (hst : st = argsL.reverse ++ rest) (hm : Ls.size = k.maxL)
    (hf : kc.rm.frames + 1 ≤ k.rm.frames) (hl : (rest.map fun v => v.category).sum + (kc.maxL + 11) + kc.rm.locals ≤ k.rm.locals) (hcl : cells + kc.rm.cells ≤ k.rm.cells) (hsl : slots + kc.rm.slots ≤ k.rm.slots) (hd : decode k.bytes pc = .ok (.invokestatic index, 3)) (hp : pc + 3 = pc')
    (g : ∀ v T' h', Q v h' → On k Z n0 E T' h' (cells + kc.rm.cells) (slots + kc.rm.slots) → Go E G (Fm E T' pc' Ls (v.toList ++ rest))) : Go E G (Fm E T pc Ls st) := by
  obtain ⟨C, hh, L, a1, b1, ha, hb1, hF, X⟩ := W
  subst hp
  have hZ := C.2.2.2.2.2.2.1
  obtain ⟨v, _, ⟨T', L', k', n'⟩, -, X', ⟨Lc, hQ, l', y', z'⟩, st'⟩ := Jvm.LawKit.callS X C.1 (y := kc.y) C.2.2.2.1 (mvT hZ w1) (mvT hZ w2) (mvT hZ w3) (mvT hZ w4) hy (c.back (k := k) (W := (rest.map fun v => v.category).sum) hZ w4 w3 hf hl) (g := mkF E.m pc Ls st) rfl (hm.trans C.2.2.1.symm) (argsL := argsL) (rest := rest) (lenOf hdesc hlen) hst (by show 2 * 0 + _ ≤ _; omega) (hb C.2.1 hd) (fun _ _ => ⟨rfl, hh, Nat.le_trans (Nat.add_le_add_right ha _) hcl, Nat.le_trans (Nat.add_le_add_right hb1 _) hsl⟩)
  dsimp only [Pt.U, Pt.locs, Pt.cells, Pt.slots] at X' l' y' z' st' hQ
  subst l' y' z'
  exact (g v T' _ hQ.1 ⟨C, rfl, _, _, _, Nat.add_le_add_right ha _, Nat.add_le_add_right hb1 _, Fr.app hF hQ.2, X'⟩).step st'
theorem go_callN (W : On k Z n0 E T h cells slots) {kc : Mt} {index : Nat} {a : Addr} {argsL rest : List Value} {ps : List FieldType} {r : Option FieldType} {Q : Option Value → Heap → Prop} (w1 : (Cond.methodLink k.y.cls index kc.y).before a0 Z = true) (w2 : (Cond.instanceMethod kc.y).before a0 Z = true) (w3 : (Cond.initialized kc.y.cls).before a0 Z = true) (w4 : (Cond.code kc.y kc.bytes kc.maxL none).before a0 Z = true)
    (c : Ct E.l Z kc (.ref a :: argsL).toArray h n0 Q) (hi : kc.y.name = "<init>") (hrt : kc.ret = none) (hy : kc.y.cls ≠ "java/lang/invoke/MethodHandle" ∧ kc.y.cls ≠ "java/lang/invoke/VarHandle") (hdesc : parseMethodDescriptor kc.y.desc = some ⟨ps, r⟩) (hlen : argsL.length = ps.length) (hst : st = argsL.reverse ++ .ref a :: rest) (hm : Ls.size = k.maxL)
    (hf : kc.rm.frames + 1 ≤ k.rm.frames) (hl : (rest.map fun v => v.category).sum + (kc.maxL + 11) + kc.rm.locals ≤ k.rm.locals) (hcl : cells + kc.rm.cells ≤ k.rm.cells) (hsl : slots + kc.rm.slots ≤ k.rm.slots) (hd : decode k.bytes pc = .ok (.invokespecial index, 3)) (hp : pc + 3 = pc')
    (g : ∀ v T' h', Q v h' → On k Z n0 E T' h' (cells + kc.rm.cells) (slots + kc.rm.slots) → Go E G (Fm E T' pc' Ls (v.toList ++ rest))) : Go E G (Fm E T pc Ls st) := by
  obtain ⟨C, hh, L, a1, b1, ha, hb1, hF, X⟩ := W
  subst hp
  have hZ := C.2.2.2.2.2.2.1
  obtain ⟨v, _, ⟨T', L', k', n'⟩, -, X', ⟨Lc, hQ, l', y', z'⟩, st'⟩ := X.specialBack C.1 (y := kc.y) hi C.2.2.2.1 (mvT hZ w1) (mvT hZ w2) (mvT hZ w4) hy (c.back (k := k) (W := (rest.map fun v => v.category).sum) hZ (hrt ▸ w4) w3 hf hl) (g := mkF E.m pc Ls st) rfl (hm.trans C.2.2.1.symm) (Steps.refl _) (a := a) (argsL := argsL) (rest := rest) (lenOf hdesc hlen) hst (by show 2 * 0 + _ ≤ _; omega) (hb C.2.1 hd) (fun _ _ => ⟨rfl, hh, Nat.le_trans (Nat.add_le_add_right ha _) hcl, Nat.le_trans (Nat.add_le_add_right hb1 _) hsl⟩)
  dsimp only [Pt.U, Pt.locs, Pt.cells, Pt.slots] at X' l' y' z' st' hQ
  subst l' y' z'
  exact (g v T' _ hQ.1 ⟨C, rfl, _, _, _, Nat.add_le_add_right ha _, Nat.add_le_add_right hb1 _, Fr.app hF hQ.2, X'⟩).step fun t q => st'.trans q
theorem go_callV (W : On k Z n0 E T h cells slots) {kc : Mt} {y : MethodName} {K : String} {index : Nat} {a : Addr} {argsL rest : List Value} {ps : List FieldType} {r : Option FieldType} {Q : Option Value → Heap → Prop} (w1 : (Cond.methodLink k.y.cls index y).before a0 Z = true) (w2 : (Cond.declares y).before a0 Z = true) (nf : NotFace E.s y) (w3 : (Cond.selects K y kc.y).before a0 Z = true) (w4 : (Cond.instanceMethod kc.y).before a0 Z = true) (w5 : (Cond.initialized kc.y.cls).before a0 Z = true) (w6 : (Cond.code kc.y kc.bytes kc.maxL kc.ret).before a0 Z = true)
    (Ex : Exa Z h a K) (c : Ct E.l Z kc (.ref a :: argsL).toArray h n0 Q) (hy : y.cls ≠ "java/lang/invoke/MethodHandle" ∧ y.cls ≠ "java/lang/invoke/VarHandle") (hdesc : parseMethodDescriptor y.desc = some ⟨ps, r⟩) (hlen : argsL.length = ps.length) (hst : st = argsL.reverse ++ .ref a :: rest) (hm : Ls.size = k.maxL)
    (hf : kc.rm.frames + 1 ≤ k.rm.frames) (hl : (rest.map fun v => v.category).sum + (kc.maxL + 11) + kc.rm.locals ≤ k.rm.locals) (hcl : cells + kc.rm.cells ≤ k.rm.cells) (hsl : slots + kc.rm.slots ≤ k.rm.slots) (hd : decode k.bytes pc = .ok (.invokevirtual index, 3)) (hp : pc + 3 = pc')
    (g : ∀ v T' h', Q v h' → On k Z n0 E T' h' (cells + kc.rm.cells) (slots + kc.rm.slots) → Go E G (Fm E T' pc' Ls (v.toList ++ rest))) : Go E G (Fm E T pc Ls st) := by
  obtain ⟨C, hh, L, a1, b1, ha, hb1, hF, X⟩ := W
  subst hp
  have hZ := C.2.2.2.2.2.2.1
  obtain ⟨cq, kq, qa, qb, qc⟩ := isOf (T := T) hZ hh Ex
  obtain ⟨v, _, ⟨T', L', k', n'⟩, -, X', ⟨Lc, hQ, l', y', z'⟩, st'⟩ := X.virtualBack C.1 (y := y) (z := kc.y) C.2.2.2.1 (mvT hZ w1) (mvT hZ w2) nf (mvT hZ w3) (mvT hZ w4) hy (c.back (k := k) (W := (rest.map fun v => v.category).sum) hZ w6 w5 hf hl) qa qc (g := mkF E.m pc Ls st) rfl (hm.trans C.2.2.1.symm) (Steps.refl _) (argsL := argsL) (rest := rest) (lenOf hdesc hlen) hst (by show 2 * 0 + _ ≤ _; omega) (hb C.2.1 hd) (fun _ _ => ⟨rfl, hh, Nat.le_trans (Nat.add_le_add_right ha _) hcl, Nat.le_trans (Nat.add_le_add_right hb1 _) hsl⟩)
  dsimp only [Pt.U, Pt.locs, Pt.cells, Pt.slots] at X' l' y' z' st' hQ
  subst l' y' z'
  exact (g v T' _ hQ.1 ⟨C, rfl, _, _, _, Nat.add_le_add_right ha _, Nat.add_le_add_right hb1 _, Fr.app hF hQ.2, X'⟩).step fun t q => st'.trans q
theorem nf_sel (W : On k Z n0 E T h cells slots) {y : MethodName} (w : (Cond.selects y.cls y y).before a0 Z = true) : NotFace E.s y := notFace_of_selects (args := #[]) (mvT W.hZ w)
theorem nf_sup (W : On k Z n0 E T h cells slots) {y : MethodName} {S : String} (w : (Cond.superclass y.cls S).before a0 Z = true) : NotFace E.s y := nf_super (args := #[]) (mvT W.hZ w)

theorem go_instNo (W : On k Z n0 E T h cells slots) {K C : String} {index : Nat} (w : (Cond.classLink k.y.cls index K).before a0 Z = true) {a : Addr} (Ex : Exa Z h a C) (F : ∃ c t, Z.vm.findClass C = some c ∧ Z.vm.findClass K = some t ∧ Z.vm.assignable c t = false) (hd : decode k.bytes pc = .ok (.instanceof index, 3)) (hp : pc + 3 = pc') (g : ∀ T', On k Z n0 E T' h cells slots → Go E G (Fm E T' pc' Ls (.int 0 :: st))) : Go E G (Fm E T pc Ls (.ref a :: st)) := by
  obtain ⟨C, hh, L, a1, b1, ha, hb1, hF, X⟩ := W
  subst hp
  obtain ⟨T', X', e', st'⟩ := instNo X C.1 C.2.2.2.2.2.2.1 C.2.2.2.1 w hh Ex F (g := mkF E.m pc Ls (.ref a :: st)) rfl rfl (hb C.2.1 hd)
  exact (g T' ⟨C, e', L, a1, b1, ha, hb1, hF, X'⟩).step st'
theorem go_instNull (W : On k Z n0 E T h cells slots) {index : Nat} (hd : decode k.bytes pc = .ok (.instanceof index, 3)) (hp : pc + 3 = pc') (g : Go E G (Fm E T pc' Ls (.int 0 :: st))) : Go E G (Fm E T pc Ls (.null :: st)) := by
  obtain ⟨C, hh, L, a1, b1, ha, hb1, hF, X⟩ := W
  subst hp
  exact g.step (X.instanceofNull C.1 (g := mkF E.m pc Ls (.null :: st)) rfl rfl (hb C.2.1 hd))
theorem go_castNull (W : On k Z n0 E T h cells slots) {index : Nat} (hd : decode k.bytes pc = .ok (.checkcast index, 3)) (hp : pc + 3 = pc') (g : Go E G (Fm E T pc' Ls (.null :: st))) : Go E G (Fm E T pc Ls (.null :: st)) := by
  obtain ⟨C, hh, L, a1, b1, ha, hb1, hF, X⟩ := W
  subst hp
  exact g.step (X.checkcastNull C.1 (g := mkF E.m pc Ls (.null :: st)) rfl rfl (hb C.2.1 hd))
theorem go_putFN (W : On k Z n0 E T h cells slots) {R0 O n d K : String} {index kk : Nat} {ty : FieldType} (w : (Cond.fieldLink k.y.cls index R0 n d).before a0 Z = true) (via : Via Z R0 O n d) {a : Addr} {v v' old : Value} (F : Fld Z h a O n d old) (Ex : Exa Z h a K)
    (L : (Cond.lays K O n d).before a0 Z = true ∨ ((Cond.laysFinal K O n d).before a0 Z = true ∧ k.y.cls = O ∧ k.y.name = "<init>")) (wi : (Cond.instantiable K kk).before a0 Z = true) (hty : parseFieldDescriptor d = some ty) (hn : narrow ty v = v') (hf : fits ty v' = true) (hn0 : n0 ≤ a)
    (hd : decode k.bytes pc = .ok (.putfield index, 3)) (hp : pc + 3 = pc') (g : ∀ T' h', On k Z n0 E T' h' cells slots → Wr h h' a (Jvm.RoadKit.slotOf Z O n d) v' → Go E G (Fm E T' pc' Ls st)) : Go E G (Fm E T pc Ls (v :: .ref a :: st)) := by
  obtain ⟨C, hh, Lc, a1, b1, ha, hb1, hF, X⟩ := W
  subst hp
  obtain ⟨T', h', X', e', W', st'⟩ := putFN X C.1 C.2.2.2.2.2.2.1 C.2.2.2.1 w via hh F Ex (L.imp id fun q => ⟨q.1, q.2.1, C.2.2.2.2.2.2.2.1.trans q.2.2⟩) wi hty hn hf (g := mkF E.m pc Ls (v :: .ref a :: st)) rfl rfl (hb C.2.1 hd)
  exact (g T' h' ⟨C, e', _, a1, b1, ha, hb1, Fr.snoc X' hF hn0, X'⟩ W').step st'
theorem go_newR (W : On k Z n0 E T h cells slots) {K : String} {index : Nat} (w1 : (Cond.classLink k.y.cls index K).before a0 Z = true) (w2 : (Cond.arrayOver (.object K)).before a0 Z = true) {n : Int32} (hd : decode k.bytes pc = .ok (.anewarray index, 3)) (hn : ¬ n < 0) (cap : Nat) (hcap : n.toNatClampNeg ≤ cap) (hb8 : cap * 8 ≤ 536870912) (hc : cells + 1 ≤ k.rm.cells) (hl : slots + cap ≤ k.rm.slots) (hp : pc + 3 = pc')
    (g : ∀ T' h' cA a, a = h.size → On k Z n0 E T' h' (cells + 1) (slots + cap) → Ext h h' → Arr Z h' a (newA cA (.object K) n) (.object K) → Ovr Z cA K → Go E G (Fm E T' pc' Ls (.ref a :: st))) : Go E G (Fm E T pc Ls (.int n :: st)) := by
  obtain ⟨C, hh, L, a1, b1, ha, hb1, hF, X⟩ := W
  subst hp
  obtain ⟨T', h', cA, X', e', E', A', O', st'⟩ := newR X C.1 C.2.2.2.2.2.2.1 C.2.2.2.1 w1 w2 hh (g := mkF E.m pc Ls (.int n :: st)) rfl (hb C.2.1 hd) rfl hn hcap hb8 (Nat.le_trans (Nat.add_le_add_right ha 1) hc) (Nat.le_trans (Nat.add_le_add_right hb1 cap) hl)
  exact (g T' h' cA _ rfl ⟨C, e', L, _, _, Nat.add_le_add_right ha 1, Nat.add_le_add_right hb1 cap, hF, X'⟩ E' A' O').step st'
theorem go_stR (W : On k Z n0 E T h cells slots) {a : Addr} {cl : Cell} {ty : FieldType} (A : Arr Z h a cl ty) {j : Int32} {v : Value} (hj : ¬ (j < 0 ∨ cl.slots.size ≤ j.toNatClampNeg)) (hty : ty.isReference = true) (F : Sto Z h a v) (hn0 : n0 ≤ a) (hd : decode k.bytes pc = .ok (.aastore, 1)) (hp : pc + 1 = pc') (g : ∀ T' h', On k Z n0 E T' h' cells slots → Wr h h' a j.toNatClampNeg v → Go E G (Fm E T' pc' Ls st)) : Go E G (Fm E T pc Ls (v :: .int j :: .ref a :: st)) := by
  obtain ⟨C, hh, L, a1, b1, ha, hb1, hF, X⟩ := W
  subst hp
  obtain ⟨T', h', X', e', W', st'⟩ := stR X C.1 C.2.2.2.2.2.2.1 hh A hj hty F (g := mkF E.m pc Ls (v :: .int j :: .ref a :: st)) rfl rfl (hb C.2.1 hd)
  exact (g T' h' ⟨C, e', _, a1, b1, ha, hb1, Fr.snoc X' hF hn0, X'⟩ W').step st'
theorem go_newPE (W : On k Z n0 E T h cells slots) {aty : ArrayType} (w : (Cond.arrayClass (newarray.typeOf aty)).before a0 Z = true) {n : Int32} (hd : decode k.bytes pc = .ok (.newarray aty, 2)) (hn : ¬ n < 0) (cap : Nat) (hcap : n.toNatClampNeg ≤ cap) (hb8 : cap * 8 ≤ 536870912) (hc : cells + 1 ≤ k.rm.cells) (hl : slots + cap ≤ k.rm.slots) {ad : String} (had : "[" ++ (newarray.typeOf aty).toString = ad) (hp : pc + 2 = pc')
    (g : ∀ T' h' cA a, a = h.size → On k Z n0 E T' h' (cells + 1) (slots + cap) → Ext h h' → Arr Z h' a (newA cA (newarray.typeOf aty) n) (newarray.typeOf aty) → Exa Z h' a ad → Go E G (Fm E T' pc' Ls (.ref a :: st))) : Go E G (Fm E T pc Ls (.int n :: st)) := by
  obtain ⟨C, hh, L, a1, b1, ha, hb1, hF, X⟩ := W
  subst hp
  obtain ⟨T', h', cA, X', e', E', A', Q', st'⟩ := newPE X C.1 C.2.2.2.2.2.2.1 w hh (g := mkF E.m pc Ls (.int n :: st)) rfl (hb C.2.1 hd) rfl hn hcap hb8 (Nat.le_trans (Nat.add_le_add_right ha 1) hc) (Nat.le_trans (Nat.add_le_add_right hb1 cap) hl) had
  exact (g T' h' cA _ rfl ⟨C, e', L, _, _, Nat.add_le_add_right ha 1, Nat.add_le_add_right hb1 cap, hF, X'⟩ E' A' Q').step st'
theorem go_cloneA (W : On k Z n0 E T h cells slots) {ad : String} {index : Nat} (w1 : (Cond.methodLink k.y.cls index ⟨ad, "clone", "()Ljava/lang/Object;"⟩).before a0 Z = true) (w2 : (Cond.sameMethod ad "java/lang/Object" "clone" "()Ljava/lang/Object;").before a0 Z = true) (w3 : (Cond.native ⟨"java/lang/Object", "clone", "()Ljava/lang/Object;"⟩).before a0 Z = true)
    (w4 : (Cond.instanceMethod ⟨"java/lang/Object", "clone", "()Ljava/lang/Object;"⟩).before a0 Z = true) (w5 : (Cond.selects ad ⟨ad, "clone", "()Ljava/lang/Object;"⟩ ⟨"java/lang/Object", "clone", "()Ljava/lang/Object;"⟩).before a0 Z = true) (w6 : (Cond.castable ad "java/lang/Cloneable").before a0 Z = true)
    {a : Addr} {cl : Cell} {ty : FieldType} (A : Arr Z h a cl ty) (Ex : Exa Z h a ad) (F : FitC Z cl) (hd : decode k.bytes pc = .ok (.invokevirtual index, 3)) (hm : Ls.size = k.maxL) (hf : 1 ≤ k.rm.frames) (hl : (st.map fun v => v.category).sum + 14 ≤ k.rm.locals) (cap : Nat) (hcap : cl.slots.size ≤ cap) (hc : cells + 1 ≤ k.rm.cells) (hsl : slots + cap ≤ k.rm.slots) (hp : pc + 3 = pc')
    (g : ∀ T' h' b, b = h.size → On k Z n0 E T' h' (cells + 1) (slots + cap) → Ext h h' → Arr Z h' b (cloneOf cl) ty → Exa Z h' b ad → Go E G (Fm E T' pc' Ls (.ref b :: st))) : Go E G (Fm E T pc Ls (.ref a :: st)) := by
  obtain ⟨C, hh, L, a1, b1, ha, hb1, hF, X⟩ := W
  subst hp
  obtain ⟨T', h', X', e', E', A', Q', st'⟩ := cloneA X C.1 C.2.2.2.2.2.2.1 C.2.2.2.1 w1 w2 w3 w4 w5 w6 hh A Ex F (g := mkF E.m pc Ls (.ref a :: st)) rfl (hm.trans C.2.2.1.symm) rfl (hb C.2.1 hd) hf (W := (st.map fun v => v.category).sum) (by show 2 * 0 + _ ≤ _; omega) hl hcap (Nat.le_trans (Nat.add_le_add_right ha 1) hc) (Nat.le_trans (Nat.add_le_add_right hb1 cap) hsl)
  exact (g T' h' _ rfl ⟨C, e', L, _, _, Nat.add_le_add_right ha 1, Nat.add_le_add_right hb1 cap, hF, X'⟩ E' A' Q').step st'
theorem go_lamConst (W : On k Z n0 E T h cells slots) {index : Nat} {sh : Lambda.Shape} (w : (Cond.lambdaSite k.y pc index sh).before a0 Z = true) (hcap : sh.captured = []) (hd : decode k.bytes pc = .ok (.invokedynamic index, 5)) (hm : Ls.size = k.maxL) (hl : (st.map fun v => v.category).sum + 3072 ≤ k.rm.locals) (hp : pc + 5 = pc') (g : ∀ a : Addr, Go E G (Fm E T pc' Ls (.ref a :: st))) : Go E G (Fm E T pc Ls st) := by
  obtain ⟨C, hh, L, a1, b1, ha, hb1, hF, X⟩ := W
  subst hp
  have hZ := C.2.2.2.2.2.2.1
  obtain ⟨cK, one, hat⟩ := Cond.lambdaSite_spec w
  obtain ⟨mD, kD, cfD, i0, p0, lk, hmD, hkD, -, -, -, hfind, -, -, hl'⟩ := State.lambdaAt?_spec hat
  have hn : Z.methodNamed? k.y = some E.m := by
    have q : (Z.setVm E.s.vm).methodNamed? k.y = some E.m := C.2.2.2.2.2.2.2.2
    rw [State.methodNamed?_setVm hZ.alike] at q; exact q
  cases hn.symm.trans hmD
  obtain ⟨k', q1, q2⟩ := hZ.alike.2.2 _ _ hkD
  rcases hl' with ⟨a, cell, rfl, -⟩ | ⟨-, -, hne⟩
  · have hw : E.e.platform.lambdaLinkWords = 3072 := by rw [X.admits.platform]
    exact (g a).step fun t r => X.lambdaConstant C.1 (g := mkF E.m pc Ls st) rfl (hm.trans C.2.2.1.symm) (hb C.2.1 hd) q1 (by rw [q2]; exact hfind) (by rw [hw]; show 2 * 0 + (st.map fun v => v.category).sum + 3072 ≤ _; omega) r
  · exact absurd hcap hne
theorem go_lsw (W : On k Z n0 E T h cells slots) {dflt : Int} {prs : Array (Int × Int)} {len : Nat} {i : Int32} (hd : decode k.bytes pc = .ok (.lookupswitch dflt prs, len)) (hsrt : ∀ a b a_1 b_1 : Int, ((a, b), a_1, b_1) ∈ prs.toList.zip prs.toList.tail → a < a_1) (ho : 0 ≤ (pc : Int) + lookupswitch.offset prs.toList dflt i.toInt) (hp : ((pc : Int) + lookupswitch.offset prs.toList dflt i.toInt).toNat = pc') (g : Go E G (Fm E T pc' Ls st)) : Go E G (Fm E T pc Ls (.int i :: st)) := by
  subst hp
  refine g.step fun t r => ?_
  have q := W.here; have hx := W.exec; have hd' := hb W.bytes hd
  show Steps E.p.tables E.e E.below (T.setTop { method := E.m, pc := pc, locals := Ls, stack := .int i :: st, locked := none }) t
  jvm_step q [q.top, hx, hd', ho, lookupswitch.wp_chain]
  exact ⟨hsrt, r⟩
theorem Sta.kept {h' : Heap} {C n d : String} {v : Value} (S : Sta Z h C n d v) (K : Keep h h' []) : Sta Z h' C n d v := by
  obtain ⟨cf, i, k, f, st, cell, h1, h2, h3, h4, h5, r⟩ := S; exact ⟨cf, i, k, f, st, cell, h1, h2, h3, h4, K.2.1 _ _ h5 nin0, r⟩
theorem Arr.kept {h' : Heap} {a : Addr} {c : Cell} {ty : FieldType} (A : Arr Z h a c ty) (K : Keep h h' []) : Arr Z h' a c ty := ⟨K.2.1 _ _ A.1 nin0, A.2⟩
theorem Keep.ext0 {h' : Heap} {ws : List Addr} (K : Keep h h' ws) (q : ∀ x ∈ ws, h.size ≤ x) : Ext h h' := ⟨K.1, fun a c e => K.2.1 a c e fun y => absurd (Array.getElem?_eq_some_iff.mp e).1 (Nat.not_lt.mpr (q a y))⟩
theorem Keep.nil {h' : Heap} {ws : List Addr} (K : Keep h h' ws) (q : ∀ x ∈ ws, h.size ≤ x) : Keep h h' [] := ⟨K.1, fun a c e _ => (Keep.ext0 K q).2 a c e, K.2.2⟩
/-! an array by a function -/
def Af (Z : State) (h : Heap) (a : Addr) (ty : FieldType) (n : Nat) (f : Nat → Value) : Prop := ∃ c : Cell, Arr Z h a c ty ∧ c.slots.size = n ∧ ∀ i, i < n → c.slots[i]? = some (f i)
theorem Af.lt {a : Addr} {ty : FieldType} {n : Nat} {f : Nat → Value} (F : Af Z h a ty n f) : a < h.size := by obtain ⟨c, A, -⟩ := F; exact A.lt
theorem Af.ext {h' : Heap} {a : Addr} {ty : FieldType} {n : Nat} {f : Nat → Value} (F : Af Z h a ty n f) (X : Ext h h') : Af Z h' a ty n f := by obtain ⟨c, A, r⟩ := F; exact ⟨c, A.ext X, r⟩
theorem Af.other {h' : Heap} {a b : Addr} {sl : Nat} {v : Value} {ty : FieldType} {n : Nat} {f : Nat → Value} (F : Af Z h b ty n f) (W : Wr h h' a sl v) (q : b ≠ a) : Af Z h' b ty n f := by obtain ⟨c, A, r⟩ := F; exact ⟨c, A.other W q, r⟩
theorem Af.keep {h' : Heap} {a : Addr} {ws : List Addr} {ty : FieldType} {n : Nat} {f : Nat → Value} (F : Af Z h a ty n f) (K : Keep h h' ws) (q : a ∉ ws) : Af Z h' a ty n f := by obtain ⟨c, A, r⟩ := F; exact ⟨c, ⟨K.2.1 a c A.1 q, A.2⟩, r⟩
theorem Af.congr {a : Addr} {ty : FieldType} {n : Nat} {f f' : Nat → Value} (F : Af Z h a ty n f) (q : ∀ i, i < n → f i = f' i) : Af Z h a ty n f' := by obtain ⟨c, A, r1, r2⟩ := F; exact ⟨c, A, r1, fun i hi => by rw [r2 i hi, q i hi]⟩
theorem Af.new {a : Addr} {ty : FieldType} {cA : ClassId} {z : Int32} {n : Nat} (A : Arr Z h a (newA cA ty z) ty) (q : z.toNatClampNeg = n) : Af Z h a ty n (fun _ => defaultValue ty) := ⟨_, A, by rw [sz_new]; exact q, fun i hi => by subst q; simp [newA, hi]⟩
theorem Af.set {h' : Heap} {a : Addr} {v : Value} {ty : FieldType} {n : Nat} {f : Nat → Value} {i : Nat} (F : Af Z h a ty n f) (W : Wr h h' a i v) (hi : i < n) : Af Z h' a ty n (fun j => if j = i then v else f j) := by
  obtain ⟨c, A, r1, r2⟩ := F
  refine ⟨_, A.same W, by rw [sz_set]; exact r1, fun j hj => ?_⟩
  by_cases e : j = i
  · subst e; simp [Cell.setSlot, r1, hi]
  · show _ = some (if j = i then v else f j)
    rw [if_neg e, ← r2 j hj]; exact Array.getElem?_setIfInBounds_ne (Ne.symm e)
theorem Af.at {a : Addr} {ty : FieldType} {n : Nat} {f : Nat → Value} {j : Int32} {i : Nat} (F : Af Z h a ty n f) (hj : j.toInt = (i : Int)) (hi : i < n) : j.toNatClampNeg = i ∧ ∃ c : Cell, Arr Z h a c ty ∧ ¬ (j < 0 ∨ c.slots.size ≤ j.toNatClampNeg) ∧ c.slots[j.toNatClampNeg]? = some (f i) := by
  obtain ⟨c, A, r1, r2⟩ := F
  have e : j.toNatClampNeg = i := by simp only [Int32.toNatClampNeg]; omega
  refine ⟨e, c, A, ?_, by rw [e]; exact r2 i hi⟩
  rw [e, r1, Int32.lt_iff_toInt_lt, hj]
  simp only [Int32.reduceToInt]; omega
theorem Af.len {a : Addr} {ty : FieldType} {n : Nat} {f : Nat → Value} (F : Af Z h a ty n f) : ∃ c : Cell, Arr Z h a c ty ∧ c.slots.size = n := by obtain ⟨c, A, r1, -⟩ := F; exact ⟨c, A, r1⟩
theorem Af.fitC {a : Addr} {ty : FieldType} {n : Nat} {f : Nat → Value} (F : Af Z h a ty n f) (q : ∀ i, i < n → fits ty (f i) = true) : ∃ c : Cell, Arr Z h a c ty ∧ c.slots.size = n ∧ FitC Z c ∧ ∀ i, i < n → c.slots[i]? = some (f i) := by
  obtain ⟨c, A, r1, r2⟩ := F
  refine ⟨c, A, r1, fitC_of A fun i hi v hv => ?_, r2⟩
  rw [r1] at hi
  rw [r2 i hi] at hv
  cases hv; exact q i hi
theorem go_cloneF (W : On k Z n0 E T h cells slots) {ad : String} {index : Nat} (w1 : (Cond.methodLink k.y.cls index ⟨ad, "clone", "()Ljava/lang/Object;"⟩).before a0 Z = true) (w2 : (Cond.sameMethod ad "java/lang/Object" "clone" "()Ljava/lang/Object;").before a0 Z = true) (w3 : (Cond.native ⟨"java/lang/Object", "clone", "()Ljava/lang/Object;"⟩).before a0 Z = true)
    (w4 : (Cond.instanceMethod ⟨"java/lang/Object", "clone", "()Ljava/lang/Object;"⟩).before a0 Z = true) (w5 : (Cond.selects ad ⟨ad, "clone", "()Ljava/lang/Object;"⟩ ⟨"java/lang/Object", "clone", "()Ljava/lang/Object;"⟩).before a0 Z = true) (w6 : (Cond.castable ad "java/lang/Cloneable").before a0 Z = true)
    {a : Addr} {ty : FieldType} {n : Nat} {f : Nat → Value} (F : Af Z h a ty n f) (hfit : ∀ i, i < n → fits ty (f i) = true) (Ex : Exa Z h a ad) (hd : decode k.bytes pc = .ok (.invokevirtual index, 3)) (hm : Ls.size = k.maxL) (hf : 1 ≤ k.rm.frames) (hl : (st.map fun v => v.category).sum + 14 ≤ k.rm.locals) (hc : cells + 1 ≤ k.rm.cells) (hsl : slots + n ≤ k.rm.slots) (hp : pc + 3 = pc')
    (g : ∀ T' h' b, b = h.size → On k Z n0 E T' h' (cells + 1) (slots + n) → Ext h h' → Af Z h' b ty n f → Exa Z h' b ad → Go E G (Fm E T' pc' Ls (.ref b :: st))) : Go E G (Fm E T pc Ls (.ref a :: st)) := by
  obtain ⟨c, A, r1, FC, r2⟩ := F.fitC hfit
  exact go_cloneA W w1 w2 w3 w4 w5 w6 A Ex FC hd hm hf hl n (Nat.le_of_eq r1) hc hsl hp fun T' h' b e W' E' A' Q' => g T' h' b e W' E' ⟨_, A', r1, r2⟩ Q'
theorem go_lenF (W : On k Z n0 E T h cells slots) {a : Addr} {ty : FieldType} {n : Nat} {f : Nat → Value} {z : Int32} (F : Af Z h a ty n f) (hz : n.toInt32 = z) (hd : decode k.bytes pc = .ok (.arraylength, 1)) (hp : pc + 1 = pc') (g : Go E G (Fm E T pc' Ls (.int z :: st))) : Go E G (Fm E T pc Ls (.ref a :: st)) := by
  obtain ⟨c, A, r⟩ := F.len
  exact go_arraylength W A (by rw [r]; exact hz) hd hp g
theorem go_stIF (W : On k Z n0 E T h cells slots) {a : Addr} {n : Nat} {f : Nat → Value} {j : Int32} {i : Nat} {x : Int32} (F : Af Z h a .int n f) (hj : j.toInt = (i : Int)) (hi : i < n) (hn0 : n0 ≤ a) (hd : decode k.bytes pc = .ok (.iastore, 1)) (hp : pc + 1 = pc') (g : ∀ T' h', On k Z n0 E T' h' cells slots → Wr h h' a i (.int x) → Af Z h' a .int n (fun j => if j = i then (.int x) else f j) → Go E G (Fm E T' pc' Ls st)) : Go E G (Fm E T pc Ls (.int x :: .int j :: .ref a :: st)) := by
  obtain ⟨e, c, A, q, -⟩ := F.at hj hi
  exact go_stI W A q hn0 hd hp fun T' h' W' R => g T' h' W' (e ▸ R) (F.set (e ▸ R) hi)
theorem go_stJF (W : On k Z n0 E T h cells slots) {a : Addr} {n : Nat} {f : Nat → Value} {j : Int32} {i : Nat} {x : Int64} (F : Af Z h a .long n f) (hj : j.toInt = (i : Int)) (hi : i < n) (hn0 : n0 ≤ a) (hd : decode k.bytes pc = .ok (.lastore, 1)) (hp : pc + 1 = pc') (g : ∀ T' h', On k Z n0 E T' h' cells slots → Wr h h' a i (.long x) → Af Z h' a .long n (fun j => if j = i then (.long x) else f j) → Go E G (Fm E T' pc' Ls st)) : Go E G (Fm E T pc Ls (.long x :: .int j :: .ref a :: st)) := by
  obtain ⟨e, c, A, q, -⟩ := F.at hj hi
  exact go_stJ W A q hn0 hd hp fun T' h' W' R => g T' h' W' (e ▸ R) (F.set (e ▸ R) hi)
theorem go_stCF (W : On k Z n0 E T h cells slots) {a : Addr} {n : Nat} {f : Nat → Value} {j : Int32} {i : Nat} {x : Int32} (F : Af Z h a .char n f) (hj : j.toInt = (i : Int)) (hi : i < n) (hn0 : n0 ≤ a) (hd : decode k.bytes pc = .ok (.castore, 1)) (hp : pc + 1 = pc') (g : ∀ T' h', On k Z n0 E T' h' cells slots → Wr h h' a i (.int (nar .char x)) → Af Z h' a .char n (fun j => if j = i then (.int (nar .char x)) else f j) → Go E G (Fm E T' pc' Ls st)) : Go E G (Fm E T pc Ls (.int x :: .int j :: .ref a :: st)) := by
  obtain ⟨e, c, A, q, -⟩ := F.at hj hi
  exact go_stC W A q hn0 hd hp fun T' h' W' R => g T' h' W' (e ▸ R) (F.set (e ▸ R) hi)
theorem go_stBF (W : On k Z n0 E T h cells slots) {a : Addr} {n : Nat} {f : Nat → Value} {j : Int32} {i : Nat} {x : Int32} (F : Af Z h a .byte n f) (hj : j.toInt = (i : Int)) (hi : i < n) (hn0 : n0 ≤ a) (hd : decode k.bytes pc = .ok (.bastore, 1)) (hp : pc + 1 = pc') (g : ∀ T' h', On k Z n0 E T' h' cells slots → Wr h h' a i (.int (nar .byte x)) → Af Z h' a .byte n (fun j => if j = i then (.int (nar .byte x)) else f j) → Go E G (Fm E T' pc' Ls st)) : Go E G (Fm E T pc Ls (.int x :: .int j :: .ref a :: st)) := by
  obtain ⟨e, c, A, q, -⟩ := F.at hj hi
  exact go_stB W A q hn0 hd hp fun T' h' W' R => g T' h' W' (e ▸ R) (F.set (e ▸ R) hi)
theorem go_stZF (W : On k Z n0 E T h cells slots) {a : Addr} {n : Nat} {f : Nat → Value} {j : Int32} {i : Nat} {x : Int32} (F : Af Z h a .boolean n f) (hj : j.toInt = (i : Int)) (hi : i < n) (hn0 : n0 ≤ a) (hd : decode k.bytes pc = .ok (.bastore, 1)) (hp : pc + 1 = pc') (g : ∀ T' h', On k Z n0 E T' h' cells slots → Wr h h' a i (.int (nar .boolean x)) → Af Z h' a .boolean n (fun j => if j = i then (.int (nar .boolean x)) else f j) → Go E G (Fm E T' pc' Ls st)) : Go E G (Fm E T pc Ls (.int x :: .int j :: .ref a :: st)) := by
  obtain ⟨e, c, A, q, -⟩ := F.at hj hi
  exact go_stZ W A q hn0 hd hp fun T' h' W' R => g T' h' W' (e ▸ R) (F.set (e ▸ R) hi)
theorem go_ialoadF (W : On k Z n0 E T h cells slots) {a : Addr} {n : Nat} {f : Nat → Value} {j : Int32} {i : Nat} {v : Value} (F : Af Z h a .int n f) (hj : j.toInt = (i : Int)) (hi : i < n) (hv : f i = v) (hd : decode k.bytes pc = .ok (.iaload, 1)) (hp : pc + 1 = pc') (g : Go E G (Fm E T pc' Ls (v :: st))) : Go E G (Fm E T pc Ls (.int j :: .ref a :: st)) := by
  obtain ⟨e, c, A, q, r⟩ := F.at hj hi
  exact go_iaload W A q (hv ▸ r) hd hp g
theorem go_laloadF (W : On k Z n0 E T h cells slots) {a : Addr} {n : Nat} {f : Nat → Value} {j : Int32} {i : Nat} {v : Value} (F : Af Z h a .long n f) (hj : j.toInt = (i : Int)) (hi : i < n) (hv : f i = v) (hd : decode k.bytes pc = .ok (.laload, 1)) (hp : pc + 1 = pc') (g : Go E G (Fm E T pc' Ls (v :: st))) : Go E G (Fm E T pc Ls (.int j :: .ref a :: st)) := by
  obtain ⟨e, c, A, q, r⟩ := F.at hj hi
  exact go_laload W A q (hv ▸ r) hd hp g
theorem go_caloadF (W : On k Z n0 E T h cells slots) {a : Addr} {n : Nat} {f : Nat → Value} {j : Int32} {i : Nat} {v : Value} (F : Af Z h a .char n f) (hj : j.toInt = (i : Int)) (hi : i < n) (hv : f i = v) (hd : decode k.bytes pc = .ok (.caload, 1)) (hp : pc + 1 = pc') (g : Go E G (Fm E T pc' Ls (v :: st))) : Go E G (Fm E T pc Ls (.int j :: .ref a :: st)) := by
  obtain ⟨e, c, A, q, r⟩ := F.at hj hi
  exact go_caload W A q (hv ▸ r) hd hp g
theorem go_baloadF (W : On k Z n0 E T h cells slots) {a : Addr} {n : Nat} {f : Nat → Value} {j : Int32} {i : Nat} {v : Value} (F : Af Z h a .byte n f) (hj : j.toInt = (i : Int)) (hi : i < n) (hv : f i = v) (hd : decode k.bytes pc = .ok (.baload, 1)) (hp : pc + 1 = pc') (g : Go E G (Fm E T pc' Ls (v :: st))) : Go E G (Fm E T pc Ls (.int j :: .ref a :: st)) := by
  obtain ⟨e, c, A, q, r⟩ := F.at hj hi
  exact go_baload W A q (hv ▸ r) hd hp g
theorem go_callU (W : On k Z n0 E T h cells slots) {kc : Mt} {y : MethodName} {K owner : String} {index : Nat} {a : Addr} {argsL rest : List Value} {ps : List FieldType} {r : Option FieldType} {Q : Option Value → Heap → Prop} (w1 : (Cond.methodLink k.y.cls index y).before a0 Z = true) (w2 : (Cond.sameMethod y.cls owner y.name y.desc).before a0 Z = true) (w2' : (Cond.declares ⟨owner, y.name, y.desc⟩).before a0 Z = true) (w3 : (Cond.selects K y kc.y).before a0 Z = true) (w4 : (Cond.instanceMethod kc.y).before a0 Z = true) (w5 : (Cond.initialized kc.y.cls).before a0 Z = true) (w6 : (Cond.code kc.y kc.bytes kc.maxL kc.ret).before a0 Z = true)
    (Ex : Exa Z h a K) (c : Ct E.l Z kc (.ref a :: argsL).toArray h n0 Q) (hy : owner ≠ "java/lang/invoke/MethodHandle" ∧ owner ≠ "java/lang/invoke/VarHandle") (hdesc : parseMethodDescriptor y.desc = some ⟨ps, r⟩) (hlen : argsL.length = ps.length) (hst : st = argsL.reverse ++ .ref a :: rest) (hm : Ls.size = k.maxL)
    (hf : kc.rm.frames + 1 ≤ k.rm.frames) (hl : (rest.map fun v => v.category).sum + (kc.maxL + 11) + kc.rm.locals ≤ k.rm.locals) (hcl : cells + kc.rm.cells ≤ k.rm.cells) (hsl : slots + kc.rm.slots ≤ k.rm.slots) (hd : decode k.bytes pc = .ok (.invokevirtual index, 3)) (hp : pc + 3 = pc')
    (g : ∀ v T' h', Q v h' → On k Z n0 E T' h' (cells + kc.rm.cells) (slots + kc.rm.slots) → Go E G (Fm E T' pc' Ls (v.toList ++ rest))) : Go E G (Fm E T pc Ls st) := by
  obtain ⟨C, hh, L, a1, b1, ha, hb1, hF, X⟩ := W
  subst hp
  have hZ := C.2.2.2.2.2.2.1
  obtain ⟨cq, kq, qa, qb, qc⟩ := isOf (T := T) hZ hh Ex
  obtain ⟨v, _, ⟨T', L', k', n'⟩, -, X', ⟨Lc, hQ, l', y', z'⟩, st'⟩ := X.virtualBackUp C.1 (x := y) (y := kc.y) C.2.2.2.1 (mvT hZ w1) (mvT hZ w2) (mvT hZ w2') hy (mvT hZ w3) (mvT hZ w4) (c.back (k := k) (W := (rest.map fun v => v.category).sum) hZ w6 w5 hf hl) qa qc (g := mkF E.m pc Ls st) rfl (hm.trans C.2.2.1.symm) (Steps.refl _) (argsL := argsL) (rest := rest) (lenOf hdesc hlen) hst (by show 2 * 0 + _ ≤ _; omega) (hb C.2.1 hd) (fun _ _ => ⟨rfl, hh, Nat.le_trans (Nat.add_le_add_right ha _) hcl, Nat.le_trans (Nat.add_le_add_right hb1 _) hsl⟩)
  dsimp only [Pt.U, Pt.locs, Pt.cells, Pt.slots] at X' l' y' z' st' hQ
  subst l' y' z'
  exact (g v T' _ hQ.1 ⟨C, rfl, _, _, _, Nat.add_le_add_right ha _, Nat.add_le_add_right hb1 _, Fr.app hF hQ.2, X'⟩).step fun t q => st'.trans q
theorem go_callP (W : On k Z n0 E T h cells slots) {kc : Mt} {index : Nat} {a : Addr} {K : String} {argsL rest : List Value} {ps : List FieldType} {r : Option FieldType} {Q : Option Value → Heap → Prop} (w1 : (Cond.methodLink k.y.cls index kc.y).before a0 Z = true) (w2 : (Cond.instanceMethod kc.y).before a0 Z = true) (w3 : (Cond.selects kc.y.cls kc.y kc.y).before a0 Z = true) (w4 : (Cond.privateMethod kc.y).before a0 Z = true) (w5 : (Cond.initialized kc.y.cls).before a0 Z = true) (w6 : (Cond.code kc.y kc.bytes kc.maxL kc.ret).before a0 Z = true)
    (Ex : Exa Z h a K) (c : Ct E.l Z kc (.ref a :: argsL).toArray h n0 Q) (hy : kc.y.cls ≠ "java/lang/invoke/MethodHandle" ∧ kc.y.cls ≠ "java/lang/invoke/VarHandle") (hdesc : parseMethodDescriptor kc.y.desc = some ⟨ps, r⟩) (hlen : argsL.length = ps.length) (hst : st = argsL.reverse ++ .ref a :: rest) (hm : Ls.size = k.maxL)
    (hf : kc.rm.frames + 1 ≤ k.rm.frames) (hl : (rest.map fun v => v.category).sum + (kc.maxL + 11) + kc.rm.locals ≤ k.rm.locals) (hcl : cells + kc.rm.cells ≤ k.rm.cells) (hsl : slots + kc.rm.slots ≤ k.rm.slots) (hd : decode k.bytes pc = .ok (.invokevirtual index, 3)) (hp : pc + 3 = pc')
    (g : ∀ v T' h', Q v h' → On k Z n0 E T' h' (cells + kc.rm.cells) (slots + kc.rm.slots) → Go E G (Fm E T' pc' Ls (v.toList ++ rest))) : Go E G (Fm E T pc Ls st) := by
  obtain ⟨C, hh, L, a1, b1, ha, hb1, hF, X⟩ := W
  subst hp
  have hZ := C.2.2.2.2.2.2.1
  obtain ⟨cq, q1, q2⟩ := Ex.cell
  obtain ⟨v, _, ⟨T', L', k', n'⟩, -, X', ⟨Lc, hQ, l', y', z'⟩, st'⟩ := X.privateBack C.1 (y := kc.y) C.2.2.2.1 (mvT hZ w1) (mvT hZ w2) (mvT hZ w3) (Cond.privateMethod_at (mvP hZ w4 (args := #[]))) (mvT hZ w6) hy (c.back (k := k) (W := (rest.map fun v => v.category).sum) hZ w6 w5 hf hl) (g := mkF E.m pc Ls st) rfl (hm.trans C.2.2.1.symm) (Steps.refl _) (a := a) (by rw [hh]; exact q1) q2 (argsL := argsL) (rest := rest) (lenOf hdesc hlen) hst (by show 2 * 0 + _ ≤ _; omega) (hb C.2.1 hd) (fun _ _ => ⟨rfl, hh, Nat.le_trans (Nat.add_le_add_right ha _) hcl, Nat.le_trans (Nat.add_le_add_right hb1 _) hsl⟩)
  dsimp only [Pt.U, Pt.locs, Pt.cells, Pt.slots] at X' l' y' z' st' hQ
  subst l' y' z'
  exact (g v T' _ hQ.1 ⟨C, rfl, _, _, _, Nat.add_le_add_right ha _, Nat.add_le_add_right hb1 _, Fr.app hF hQ.2, X'⟩).step fun t q => st'.trans q
theorem go_callF (W : On k Z n0 E T h cells slots) {kc : Mt} {y : MethodName} {K : String} {index count : Nat} {a : Addr} {argsL rest : List Value} {ps : List FieldType} {r : Option FieldType} {Q : Option Value → Heap → Prop} (w1 : (Cond.methodLink k.y.cls index y).before a0 Z = true) (w2 : (Cond.declares y).before a0 Z = true) (w2' : (Cond.interfaceMethod y.cls y.cls y.name y.desc).before a0 Z = true) (w3 : (Cond.selects K y kc.y).before a0 Z = true) (w4 : (Cond.instanceMethod kc.y).before a0 Z = true) (w4' : (Cond.publicMethod kc.y).before a0 Z = true) (w4'' : (Cond.unhidden K y.name y.desc).before a0 Z = true) (wk : (Cond.castable K y.cls).before a0 Z = true) (w5 : (Cond.initialized kc.y.cls).before a0 Z = true) (w6 : (Cond.code kc.y kc.bytes kc.maxL kc.ret).before a0 Z = true)
    (Ex : Exa Z h a K) (c : Ct E.l Z kc (.ref a :: argsL).toArray h n0 Q) (hy : y.cls ≠ "java/lang/invoke/MethodHandle" ∧ y.cls ≠ "java/lang/invoke/VarHandle") (hdesc : parseMethodDescriptor y.desc = some ⟨ps, r⟩) (hlen : argsL.length = ps.length) (hst : st = argsL.reverse ++ .ref a :: rest) (hm : Ls.size = k.maxL)
    (hf : kc.rm.frames + 1 ≤ k.rm.frames) (hl : (rest.map fun v => v.category).sum + (kc.maxL + 11) + kc.rm.locals ≤ k.rm.locals) (hcl : cells + kc.rm.cells ≤ k.rm.cells) (hsl : slots + kc.rm.slots ≤ k.rm.slots) (hd : decode k.bytes pc = .ok (.invokeinterface index count, 5)) (hp : pc + 5 = pc')
    (g : ∀ v T' h', Q v h' → On k Z n0 E T' h' (cells + kc.rm.cells) (slots + kc.rm.slots) → Go E G (Fm E T' pc' Ls (v.toList ++ rest))) : Go E G (Fm E T pc Ls st) := by
  obtain ⟨C, hh, L, a1, b1, ha, hb1, hF, X⟩ := W
  subst hp
  have hZ := C.2.2.2.2.2.2.1
  obtain ⟨cq, kq, qa, qb, qc⟩ := isOf (T := T) hZ hh Ex
  obtain ⟨v, _, ⟨T', L', k', n'⟩, -, X', ⟨Lc, hQ, l', y', z'⟩, st'⟩ := X.interfaceBack C.1 (xi := y) (y := kc.y) C.2.2.2.1 (mvT hZ w1) (mvT hZ w2) (mvT hZ w2' (by simp [Cond.onTables, Cond.keepsFace, Cond.keeps, Cond.steady, Cond.faceAtom, hy.1, hy.2])) (mvT hZ w3) (mvT hZ w4) (mvT hZ w4') (mvT hZ w4'') (mvT hZ wk) hy (c.back (k := k) (W := (rest.map fun v => v.category).sum) hZ w6 w5 hf hl) qa qb qc (g := mkF E.m pc Ls st) rfl (hm.trans C.2.2.1.symm) (Steps.refl _) (argsL := argsL) (rest := rest) (lenOf hdesc hlen) hst (by show 2 * 0 + _ ≤ _; omega) (hb C.2.1 hd) (fun _ _ => ⟨rfl, hh, Nat.le_trans (Nat.add_le_add_right ha _) hcl, Nat.le_trans (Nat.add_le_add_right hb1 _) hsl⟩)
  dsimp only [Pt.U, Pt.locs, Pt.cells, Pt.slots] at X' l' y' z' st' hQ
  subst l' y' z'
  exact (g v T' _ hQ.1 ⟨C, rfl, _, _, _, Nat.add_le_add_right ha _, Nat.add_le_add_right hb1 _, Fr.app hF hQ.2, X'⟩).step fun t q => st'.trans q
end
end Jvm.GoKit
namespace Jvm.GoKit
open Sem ClassFile Op Lib Jvm.Stand Jvm.Free Jvm.LawKit Jvm.RoadKit
section
variable {k : Mt} {Z : State} {n0 : Nat} {E : Cx} {T : State} {h : Heap} {cells slots : Nat} {G : State → Outcome → Prop} {a0 : Array Value} {pc pc' : Nat} {Ls : Array Slot} {st : List Value}
/-- the Class object of C has been made -/
def Mm (Z : State) (C : String) (mr : Addr) : Prop := ∃ (c : ClassId) (kc : Class), Z.vm.findClass C = some c ∧ Z.vm.classes[c]? = some kc ∧ kc.mirror = some mr
theorem Mm.ev {s : State} {args : Array Value} {C : String} {mr : Addr} (hZ : Z.Warmed39 s.vm) (M : Mm Z C mr) : (Term.mirror C).eval args s none [] s = some (.ref mr) := by
  obtain ⟨c, kc, m1, m2, m3⟩ := M
  obtain ⟨k', q, ek⟩ := hZ.alike.2.2 _ _ m2
  have m4 : k'.mirror = some mr := by rw [ek]; exact m3
  simp [Term.eval, hZ.alike.findClass, m1, q, m4]
theorem go_ldcM (W : On k Z n0 E T h cells slots) {C : String} {index : Nat} {mr : Addr} (w : (Cond.classLink k.y.cls index C).before a0 Z = true) (M : Mm Z C mr) (hd : decode k.bytes pc = .ok (.ldc index, 2)) (hp : pc + 2 = pc') (g : ∀ T', On k Z n0 E T' h cells slots → Go E G (Fm E T' pc' Ls (.ref mr :: st))) : Go E G (Fm E T pc Ls st) := by
  obtain ⟨C', hh, L, a1, b1, ha, hb1, hF, X⟩ := W
  subst hp
  have hZ := C'.2.2.2.2.2.2.1
  obtain ⟨vm', X', st'⟩ := X.ldcMirror C'.1 C'.2.2.2.1 (mvT hZ w) (M.ev hZ) (g := mkF E.m pc Ls st) rfl (hb C'.2.1 hd)
  exact (g (T.setVm vm') ⟨C', hh, L, a1, b1, ha, hb1, hF, X'⟩).step st'
theorem go_gcls (W : On k Z n0 E T h cells slots) {C : String} {index : Nat} {a mr : Addr} (w1 : (Cond.methodLink k.y.cls index ⟨"java/lang/Object", "getClass", "()Ljava/lang/Class;"⟩).before a0 Z = true) (w2 : (Cond.declares ⟨"java/lang/Object", "getClass", "()Ljava/lang/Class;"⟩).before a0 Z = true) (w3 : (Cond.noSuperclass "java/lang/Object").before a0 Z = true) (w4 : (Cond.selects C ⟨"java/lang/Object", "getClass", "()Ljava/lang/Class;"⟩ ⟨"java/lang/Object", "getClass", "()Ljava/lang/Class;"⟩).before a0 Z = true)
    (w5 : (Cond.instanceMethod ⟨"java/lang/Object", "getClass", "()Ljava/lang/Class;"⟩).before a0 Z = true) (w6 : (Cond.native ⟨"java/lang/Object", "getClass", "()Ljava/lang/Class;"⟩).before a0 Z = true) (Ex : Exa Z h a C) (M : Mm Z C mr) (hd : decode k.bytes pc = .ok (.invokevirtual index, 3)) (hm : Ls.size = k.maxL) (hf : 1 ≤ k.rm.frames) (hl : (st.map fun v => v.category).sum + 14 ≤ k.rm.locals) (hp : pc + 3 = pc')
    (g : ∀ T', On k Z n0 E T' h cells slots → Go E G (Fm E T' pc' Ls (.ref mr :: st))) : Go E G (Fm E T pc Ls (.ref a :: st)) := by
  obtain ⟨C', hh, L, a1, b1, ha, hb1, hF, X⟩ := W
  subst hp
  have hZ := C'.2.2.2.2.2.2.1
  obtain ⟨cB, kB, i1, i2, i3⟩ := isOf (T := T) hZ hh Ex
  obtain ⟨cc, kc, m1, m2, m3⟩ := M
  rw [hZ.alike.findClass] at i1
  cases i1.symm.trans m1
  obtain ⟨k', q, ek⟩ := hZ.alike.2.2 _ _ m2
  obtain ⟨vm', X', st'⟩ := X.getClassOf C'.1 C'.2.2.2.1 (mvT hZ w1) (mvT hZ w2) (nf_top (args := #[]) (mvT hZ w3)) (mvT hZ w4) (mvT hZ w5) (mvT hZ w6) (by rw [hZ.alike.findClass]; exact m1) i3 q (by rw [ek]; exact m3) (g := mkF E.m pc Ls (.ref a :: st)) rfl (hm.trans C'.2.2.1.symm) rfl (hb C'.2.1 hd) hf
    (by have e : nativeFrameWords "java/lang/Object" "getClass" 1 + 11 ≤ 14 := by decide
        show 2 * 0 + _ + _ ≤ _; omega)
  exact (g (T.setVm vm') ⟨C', hh, L, a1, b1, ha, hb1, hF, X'⟩).step st'
/-- no cell of statics stands at x -/
def Ns (h : Heap) (x : Addr) : Prop := ∀ c : Cell, h[x]? = some c → c.vm.isStatics = false
theorem Ns.exa {a : Addr} {C : String} (F : Exa Z h a C) : Ns h a := fun c q => by
  obtain ⟨cell, kk, h1, -, -, h4, -⟩ := F
  cases h1.symm.trans q; exact h4
theorem Ns.af {a : Addr} {ty : FieldType} {n : Nat} {f : Nat → Value} (F : Af Z h a ty n f) : Ns h a := fun c q => by
  obtain ⟨cell, A, -⟩ := F
  cases A.1.symm.trans q
  have z := A.2.1.1
  cases hv : c.vm <;> first | rfl | exact absurd hv (z _)
theorem Ns.fresh {a : Addr} (q : h.size ≤ a) : Ns h a := fun c r => absurd (Array.getElem?_eq_some_iff.mp r).1 (Nat.not_lt.mpr q)
theorem Sta.keepN {h' : Heap} {C n d : String} {v : Value} {ws : List Addr} (S : Sta Z h C n d v) (K : Keep h h' ws) (q : ∀ x ∈ ws, Ns h x) : Sta Z h' C n d v := by
  obtain ⟨cf, i, kk, f, sa, cell, h1, h2, h3, h4, h5, h6, h7⟩ := S
  refine ⟨cf, i, kk, f, sa, cell, h1, h2, h3, h4, K.2.1 sa cell h5 (fun z => ?_), h6, h7⟩
  have := q sa z cell h5
  rw [this] at h6; cases h6
theorem Ins.keepK {h' : Heap} {b : Addr} {C : String} {bo : Bool} {ws : List Addr} (F : Ins Z h b C bo) (K : Keep h h' ws) : Ins Z h' b C bo := by
  obtain ⟨cell, cT, h1, h2, h3⟩ := F
  obtain ⟨c', q, r1, r2, -⟩ := K.2.2 b cell h1
  exact ⟨c', cT, q, h2, by rw [r1, r2]; exact h3⟩
abbrev OB : String := "java/lang/Object"
abbrev OA : String := "[Ljava/lang/Object;"
theorem own_ovr (w : (Cond.arrayOver (.object OB)).before a0 Z = true) {c : ClassId} (q : Z.vm.findClass OA = some c) : Ovr Z c OB := by
  obtain ⟨comp, cA, kA, g1, -, g3, g4, g5⟩ := Cond.arrayOver_spec w
  have g6 : Z.vm.findClass OA = some cA := g5
  cases q.symm.trans g6
  exact ⟨kA, comp, g3, g4, g1⟩
theorem go_newRF (W : On k Z n0 E T h cells slots) {index : Nat} (w1 : (Cond.classLink k.y.cls index OB).before a0 Z = true) (w2 : (Cond.arrayOver (.object OB)).before a0 Z = true) {z : Int32} {n : Nat} (hd : decode k.bytes pc = .ok (.anewarray index, 3)) (hn : ¬ z < 0) (hz : z.toNatClampNeg = n) (hb8 : n * 8 ≤ 536870912) (hc : cells + 1 ≤ k.rm.cells) (hl : slots + n ≤ k.rm.slots) (hp : pc + 3 = pc')
    (g : ∀ T' h' a, a = h.size → On k Z n0 E T' h' (cells + 1) (slots + n) → Ext h h' → Af Z h' a (.object OB) n (fun _ => .null) → Exa Z h' a OA → Go E G (Fm E T' pc' Ls (.ref a :: st))) : Go E G (Fm E T pc Ls (.int z :: st)) := by
  obtain ⟨C, hh, L, a1, b1, ha, hb1, hF, X⟩ := W
  subst hp
  obtain ⟨T', h', cA, X', e', E', A', Q', -, st'⟩ := newRE X C.1 C.2.2.2.2.2.2.1 C.2.2.2.1 w1 w2 hh (g := mkF E.m pc Ls (.int z :: st)) rfl (hb C.2.1 hd) rfl hn (Nat.le_of_eq hz) hb8 (Nat.le_trans (Nat.add_le_add_right ha 1) hc) (Nat.le_trans (Nat.add_le_add_right hb1 n) hl) (ad := OA) (by decide)
  exact (g T' h' _ rfl ⟨C, e', L, _, _, Nat.add_le_add_right ha 1, Nat.add_le_add_right hb1 n, hF, X'⟩ E' (Af.new A' hz) Q').step st'
theorem go_stRF (W : On k Z n0 E T h cells slots) {a y : Addr} {n : Nat} {f : Nat → Value} {j : Int32} {i : Nat} (F : Af Z h a (.object OB) n f) (Ex : Exa Z h a OA) (w2 : (Cond.arrayOver (.object OB)).before a0 Z = true) (I : Ins Z h y OB true) (hj : j.toInt = (i : Int)) (hi : i < n) (hn0 : n0 ≤ a) (hd : decode k.bytes pc = .ok (.aastore, 1)) (hp : pc + 1 = pc')
    (g : ∀ T' h', On k Z n0 E T' h' cells slots → Wr h h' a i (.ref y) → Af Z h' a (.object OB) n (fun j => if j = i then (.ref y) else f j) → Go E G (Fm E T' pc' Ls st)) : Go E G (Fm E T pc Ls (.ref y :: .int j :: .ref a :: st)) := by
  obtain ⟨e, c, A, q, -⟩ := F.at hj hi
  obtain ⟨cell, kk, h1, h2, -⟩ := Ex
  cases A.1.symm.trans h1
  exact go_stR W A q rfl (Sto.of A (own_ovr w2 h2) I) hn0 hd hp fun T' h' W' R => g T' h' W' (e ▸ R) (F.set (e ▸ R) hi)
theorem go_aaloadF (W : On k Z n0 E T h cells slots) {a : Addr} {n : Nat} {f : Nat → Value} {j : Int32} {i : Nat} {v : Value} (F : Af Z h a (.object OB) n f) (hj : j.toInt = (i : Int)) (hi : i < n) (hv : f i = v) (hd : decode k.bytes pc = .ok (.aaload, 1)) (hp : pc + 1 = pc') (g : Go E G (Fm E T pc' Ls (v :: st))) : Go E G (Fm E T pc Ls (.int j :: .ref a :: st)) := by
  obtain ⟨e, c, A, q, r⟩ := F.at hj hi
  exact go_aaload W A rfl q (hv ▸ r) hd hp g
/-- System.arraycopy over arrays given by functions -/
theorem go_acopyF (W : On k Z n0 E T h cells slots) {index : Nat} (w1 : (Cond.methodLink k.y.cls index acN).before a0 Z = true) (w2 : (Cond.native acN).before a0 Z = true) (w3 : (Cond.static acN).before a0 Z = true) (w4 : (Cond.initialized "java/lang/System").before a0 Z = true) {ty : FieldType} {a b : Addr} {n m : Nat} {f f' : Nat → Value} (F : Af Z h a ty n f) (D : Af Z h b ty m f')
    {o q r : Nat} {jo jq jr : Int32} (ho : jo = Int32.ofNat o) (hq : jq = Int32.ofNat q) (hr : jr = Int32.ofNat r) (h4 : o + r ≤ n) (h5 : q + r ≤ m) (hn : n < 2 ^ 31) (hm : m < 2 ^ 31) (hty : ((refKind ty != refKind ty) || (!refKind ty && ty != ty)) = false) (hfit : ∀ i, i < r → fits ty (f (o + i)) = true) (hsto : ty.isReference = true → ∀ i, i < r → Sto Z h b (f (o + i))) (hn0 : n0 ≤ b)
    (hd : decode k.bytes pc = .ok (.invokestatic index, 3)) (hmx : Ls.size = k.maxL) (hf : 1 ≤ k.rm.frames) (hl : (st.map fun v => v.category).sum + 40 ≤ k.rm.locals) (hp : pc + 3 = pc')
    (g : ∀ T' h', On k Z n0 E T' h' cells slots → Keep h h' [b] → Af Z h' b ty m (fun j => if q ≤ j ∧ j < q + r then f (o + (j - q)) else f' j) → Go E G (Fm E T' pc' Ls st)) : Go E G (Fm E T pc Ls (.int jr :: .int jq :: .ref b :: .int jo :: .ref a :: st)) := by
  obtain ⟨C, hh, L, a1, b1, ha, hb1, hF, X⟩ := W
  subst hp
  have hZ := C.2.2.2.2.2.2.1
  obtain ⟨A, A1, A2, A3⟩ := F
  obtain ⟨B, B1, B2, B3⟩ := D
  have hal : Z.vm.Alike T.vm := hZ.alike.trans X.warmed.alike
  have XA : Jvm.Free.XT.Arr ty a A T := ⟨by rw [hh]; exact A1.1, State.isArrayOf_alike hal A1.2.1, A1.2.2, by rw [A2]; exact hn⟩
  have XB : Jvm.Free.XT.Arr ty b B T := ⟨by rw [hh]; exact B1.1, State.isArrayOf_alike hal B1.2.1, B1.2.2, by rw [B2]; exact hm⟩
  have hget : ∀ i, i < r → A.slots.getD (o + i) .null = f (o + i) := fun i hi => by
    have := A3 (o + i) (by omega)
    simp [Array.getD_eq_getD_getElem?, this]
  have hw : ∀ w ∈ Jvm.Free.XT.acW k.y.cls index, w.before E.args E.s = true := fun w hwm => by
    simp only [Jvm.Free.XT.acW, List.mem_cons, List.not_mem_nil, or_false] at hwm
    rcases hwm with rfl | rfl | rfl | rfl
    · exact mvT hZ w1
    · exact mvT hZ w2
    · exact mvT hZ w3
    · exact mvT hZ w4
  have hgo : Jvm.Free.XT.Goes ty A o r B T := fun i hi => by
    rw [hget i hi]
    refine ⟨hfit i hi, fun hre => ?_⟩
    rcases hsto hre i hi with s0 | ⟨cell, cv, kq, kv, kc, comp, t, y, s1, s2, s3, s4, s5, s6, s7, s8, s9⟩
    · exact Or.inl s0
    · cases B1.1.symm.trans s1
      obtain ⟨k1, q1, e1⟩ := hal.2.2 _ _ s2
      obtain ⟨k2, q2, -⟩ := hal.2.2 _ _ s4
      obtain ⟨k3, q3, -⟩ := hal.2.2 _ _ s8
      refine Or.inr ⟨y, cv, k3, k1, k2, comp, t, s5, by rw [hh]; exact s6, fun qq hv => ?_, q3, q1, by rw [e1]; exact s3, q2, by rw [hal.assignable]; exact s9⟩
      rw [hv] at s7; cases s7
  obtain ⟨T', B', X', hP, c1, c2, c3, c4, st'⟩ := X.acopy C.1 C.2.2.2.1 hw XA XB hty ho hq hr (by omega) (by omega) hgo (g := mkF E.m pc Ls (.int jr :: .int jq :: .ref b :: .int jo :: .ref a :: st)) rfl (hmx.trans C.2.2.1.symm) rfl (hb C.2.1 hd) (W := (st.map fun v => v.category).sum) (by show 2 * 0 + _ ≤ _; omega) hf hl
  have K : Keep h T'.heap [b] := by
    refine ⟨by rw [hP.2.2, hh]; exact Nat.le_refl _, fun x cx hx hnx => ?_, fun x cx hx => ?_⟩
    · rw [hP.2.1 x (fun e => hnx (by simp [e])), hh]; exact hx
    · by_cases e : x = b
      · subst e
        cases B1.1.symm.trans hx
        exact ⟨B', hP.1, c1, c2, c3⟩
      · exact ⟨cx, by rw [hP.2.1 x e, hh]; exact hx, rfl, rfl, rfl⟩
  have hFr : Fr n0 (L ++ copyLocs b q r) := Fr.app hF fun y hy => by rw [copyLocs_base hy]; exact hn0
  refine (g T' _ ⟨C, rfl, _, a1, b1, ha, hb1, hFr, X'⟩ K ⟨B', ⟨hP.1, ?_, by rw [c2]; exact B1.2.2⟩, by rw [c3]; exact B2, fun j hj => ?_⟩).step st'
  · obtain ⟨z1, kz, z2, z3⟩ := B1.2.1
    exact ⟨by rw [c2]; exact z1, kz, by rw [c1]; exact z2, z3⟩
  · show _ = some (if q ≤ j ∧ j < q + r then f (o + (j - q)) else f' j)
    rw [c4 j]
    by_cases e : q ≤ j ∧ j < q + r
    · rw [if_pos e, if_pos e, hget (j - q) (by omega)]
    · rw [if_neg e, if_neg e]; exact B3 j hj
/-- a class whose chain of superclasses does not meet K (no interface) is not castable to it -/
def NI (Z : State) (K : String) (t : ClassId) : Prop := Z.vm.findClass K = some t ∧ ∃ kt, Z.vm.classes[t]? = some kt ∧ kt.isInterface = false
theorem own_nsroot {O K : String} {t : ClassId} (w : (Cond.noSuperclass O).before a0 Z = true) (N : NI Z K t) (hn : O ≠ K) : NS Z O K := by
  obtain ⟨c, kk, h1, h2, h3, -, -⟩ := Cond.noSuperclass_spec w
  have ne := ids_ne h1 N.1 hn
  refine ⟨c, t, h1, N.1, fun fuel => ?_⟩
  cases fuel with
  | zero => rfl
  | succ f => simp [Vm.isSubclassAux, ne, h2, h3]
theorem own_nsno {C S K : String} {t : ClassId} (w : (Cond.superclass C S).before a0 Z = true) (N : NI Z K t) (n : NS Z C K) (hn : C ≠ K) : ∃ c t, Z.vm.findClass C = some c ∧ Z.vm.findClass K = some t ∧ Z.vm.assignable c t = false := by
  obtain ⟨c, t', h0, g0, n3⟩ := n
  cases N.1.symm.trans g0
  obtain ⟨p, kk, kp, h1, h2, h3, h4, h5, -, h7⟩ := Cond.superclass_spec h0 w
  obtain ⟨kt, g2, g3⟩ := N.2
  have ne := ids_ne h0 g0 hn
  refine ⟨c, t, h0, g0, ?_⟩
  show Z.vm.assignableAux (255 + 1) c t = false
  cases hk : kt.kind <;> simp [Vm.assignableAux, ne, h2, g2, h5, hk, g3, Vm.isSubclass, n3]
end
end Jvm.GoKit
namespace Jvm.Pilot.@@N@@
open Jvm Jvm.ClassFile Sem Op Lib Jvm.Free Jvm.Stand Jvm.LawKit Jvm.RoadKit Bundle Jvm.GoKit Jvm.Pilot.@@N@@.Jvm.D
abbrev Hw (a0 : Array Value) (Z : State) : Prop := ∀ d ∈ tables_1, d.before a0 Z = true
theorem w0 {a0 : Array Value} {Z : State} (hw : Hw a0 Z) : (Jvm.Cond.classLink "com/example/slotwright/slotwright/EnrolmentInstanceSuitsPinLaw" (14 : Nat) "java/util/ArrayList").before a0 Z = true := hw _ (List.mem_of_getElem? (i := 0) rfl)
theorem w1 {a0 : Array Value} {Z : State} (hw : Hw a0 Z) : (Jvm.Cond.instantiable "java/util/ArrayList" (3 : Nat)).before a0 Z = true := hw _ (List.mem_of_getElem? (i := 1) rfl)
theorem w2 {a0 : Array Value} {Z : State} (hw : Hw a0 Z) : (Jvm.Cond.initialized "java/util/ArrayList").before a0 Z = true := hw _ (List.mem_of_getElem? (i := 2) rfl)
theorem w3 {a0 : Array Value} {Z : State} (hw : Hw a0 Z) : (Jvm.Cond.methodLink "com/example/slotwright/slotwright/EnrolmentInstanceSuitsPinLaw" (16 : Nat) ({ cls := "java/util/ArrayList", name := "<init>", desc := "()V" } : Jvm.MethodName)).before a0 Z = true := hw _ (List.mem_of_getElem? (i := 3) rfl)
theorem w4 {a0 : Array Value} {Z : State} (hw : Hw a0 Z) : (Jvm.Cond.instanceMethod ({ cls := "java/util/ArrayList", name := "<init>", desc := "()V" } : Jvm.MethodName)).before a0 Z = true := hw _ (List.mem_of_getElem? (i := 4) rfl)
theorem w5 {a0 : Array Value} {Z : State} (hw : Hw a0 Z) : (Jvm.Cond.code ({ cls := "java/util/ArrayList", name := "<init>", desc := "()V" } : Jvm.MethodName) jdk_38_method_2_code (1 : Nat) (Option.none : Option Jvm.ClassFile.FieldType)).before a0 Z = true := hw _ (List.mem_of_getElem? (i := 5) rfl)
theorem w6 {a0 : Array Value} {Z : State} (hw : Hw a0 Z) : (Jvm.Cond.methodLink "java/util/ArrayList" (1 : Nat) ({ cls := "java/util/AbstractList", name := "<init>", desc := "()V" } : Jvm.MethodName)).before a0 Z = true := hw _ (List.mem_of_getElem? (i := 6) rfl)
theorem w7 {a0 : Array Value} {Z : State} (hw : Hw a0 Z) : (Jvm.Cond.instanceMethod ({ cls := "java/util/AbstractList", name := "<init>", desc := "()V" } : Jvm.MethodName)).before a0 Z = true := hw _ (List.mem_of_getElem? (i := 7) rfl)
theorem w10 {a0 : Array Value} {Z : State} (hw : Hw a0 Z) : (Jvm.Cond.initialized "java/util/AbstractList").before a0 Z = true := hw _ (List.mem_of_getElem? (i := 10) rfl)
theorem w11 {a0 : Array Value} {Z : State} (hw : Hw a0 Z) : (Jvm.Cond.code ({ cls := "java/util/AbstractList", name := "<init>", desc := "()V" } : Jvm.MethodName) jdk_39_method_1_code (1 : Nat) (Option.none : Option Jvm.ClassFile.FieldType)).before a0 Z = true := hw _ (List.mem_of_getElem? (i := 11) rfl)
theorem w12 {a0 : Array Value} {Z : State} (hw : Hw a0 Z) : (Jvm.Cond.methodLink "java/util/AbstractList" (1 : Nat) ({ cls := "java/util/AbstractCollection", name := "<init>", desc := "()V" } : Jvm.MethodName)).before a0 Z = true := hw _ (List.mem_of_getElem? (i := 12) rfl)
theorem w13 {a0 : Array Value} {Z : State} (hw : Hw a0 Z) : (Jvm.Cond.instanceMethod ({ cls := "java/util/AbstractCollection", name := "<init>", desc := "()V" } : Jvm.MethodName)).before a0 Z = true := hw _ (List.mem_of_getElem? (i := 13) rfl)
theorem w16 {a0 : Array Value} {Z : State} (hw : Hw a0 Z) : (Jvm.Cond.initialized "java/util/AbstractCollection").before a0 Z = true := hw _ (List.mem_of_getElem? (i := 16) rfl)
theorem w17 {a0 : Array Value} {Z : State} (hw : Hw a0 Z) : (Jvm.Cond.code ({ cls := "java/util/AbstractCollection", name := "<init>", desc := "()V" } : Jvm.MethodName) jdk_22_method_1_code (1 : Nat) (Option.none : Option Jvm.ClassFile.FieldType)).before a0 Z = true := hw _ (List.mem_of_getElem? (i := 17) rfl)
theorem w18 {a0 : Array Value} {Z : State} (hw : Hw a0 Z) : (Jvm.Cond.methodLink "java/util/AbstractCollection" (1 : Nat) ({ cls := "java/lang/Object", name := "<init>", desc := "()V" } : Jvm.MethodName)).before a0 Z = true := hw _ (List.mem_of_getElem? (i := 18) rfl)
theorem w19 {a0 : Array Value} {Z : State} (hw : Hw a0 Z) : (Jvm.Cond.instanceMethod ({ cls := "java/lang/Object", name := "<init>", desc := "()V" } : Jvm.MethodName)).before a0 Z = true := hw _ (List.mem_of_getElem? (i := 19) rfl)
theorem w20 {a0 : Array Value} {Z : State} (hw : Hw a0 Z) : (Jvm.Cond.code ({ cls := "java/lang/Object", name := "<init>", desc := "()V" } : Jvm.MethodName) object_method_1_code (1 : Nat) (Option.none : Option Jvm.ClassFile.FieldType)).before a0 Z = true := hw _ (List.mem_of_getElem? (i := 20) rfl)
theorem w21 {a0 : Array Value} {Z : State} (hw : Hw a0 Z) : (Jvm.Cond.fieldLink "java/util/AbstractList" (7 : Nat) "java/util/AbstractList" "modCount" "I").before a0 Z = true := hw _ (List.mem_of_getElem? (i := 21) rfl)
theorem w22 {a0 : Array Value} {Z : State} (hw : Hw a0 Z) : (Jvm.Cond.lays "java/util/ArrayList" "java/util/AbstractList" "modCount" "I").before a0 Z = true := hw _ (List.mem_of_getElem? (i := 22) rfl)
theorem w23 {a0 : Array Value} {Z : State} (hw : Hw a0 Z) : (Jvm.Cond.fieldLink "java/util/ArrayList" (39 : Nat) "java/util/ArrayList" "DEFAULTCAPACITY_EMPTY_ELEMENTDATA" "[Ljava/lang/Object;").before a0 Z = true := hw _ (List.mem_of_getElem? (i := 23) rfl)
theorem w24 {a0 : Array Value} {Z : State} (hw : Hw a0 Z) : (Jvm.Cond.fieldLink "java/util/ArrayList" (9 : Nat) "java/util/ArrayList" "elementData" "[Ljava/lang/Object;").before a0 Z = true := hw _ (List.mem_of_getElem? (i := 24) rfl)
theorem w25 {a0 : Array Value} {Z : State} (hw : Hw a0 Z) : (Jvm.Cond.lays "java/util/ArrayList" "java/util/ArrayList" "elementData" "[Ljava/lang/Object;").before a0 Z = true := hw _ (List.mem_of_getElem? (i := 25) rfl)
theorem w26 {a0 : Array Value} {Z : State} (hw : Hw a0 Z) : (Jvm.Cond.classLink "com/example/slotwright/slotwright/EnrolmentInstanceSuitsPinLaw" (17 : Nat) "com/example/slotwright/slotwright/EnrolmentInstance$Room").before a0 Z = true := hw _ (List.mem_of_getElem? (i := 26) rfl)
theorem w27 {a0 : Array Value} {Z : State} (hw : Hw a0 Z) : (Jvm.Cond.instantiable "com/example/slotwright/slotwright/EnrolmentInstance$Room" (2 : Nat)).before a0 Z = true := hw _ (List.mem_of_getElem? (i := 27) rfl)
theorem w28 {a0 : Array Value} {Z : State} (hw : Hw a0 Z) : (Jvm.Cond.initialized "com/example/slotwright/slotwright/EnrolmentInstance$Room").before a0 Z = true := hw _ (List.mem_of_getElem? (i := 28) rfl)
theorem w29 {a0 : Array Value} {Z : State} (hw : Hw a0 Z) : (Jvm.Cond.methodLink "com/example/slotwright/slotwright/EnrolmentInstanceSuitsPinLaw" (19 : Nat) ({ cls := "com/example/slotwright/slotwright/EnrolmentInstanceSuitsPinLaw", name := "bits", desc := "(I)Ljava/util/BitSet;" } : Jvm.MethodName)).before a0 Z = true := hw _ (List.mem_of_getElem? (i := 29) rfl)
theorem w30 {a0 : Array Value} {Z : State} (hw : Hw a0 Z) : (Jvm.Cond.static ({ cls := "com/example/slotwright/slotwright/EnrolmentInstanceSuitsPinLaw", name := "bits", desc := "(I)Ljava/util/BitSet;" } : Jvm.MethodName)).before a0 Z = true := hw _ (List.mem_of_getElem? (i := 30) rfl)
theorem w31 {a0 : Array Value} {Z : State} (hw : Hw a0 Z) : (Jvm.Cond.initialized "com/example/slotwright/slotwright/EnrolmentInstanceSuitsPinLaw").before a0 Z = true := hw _ (List.mem_of_getElem? (i := 31) rfl)
theorem w32 {a0 : Array Value} {Z : State} (hw : Hw a0 Z) : (Jvm.Cond.code ({ cls := "com/example/slotwright/slotwright/EnrolmentInstanceSuitsPinLaw", name := "bits", desc := "(I)Ljava/util/BitSet;" } : Jvm.MethodName) method_2_code (2 : Nat) (Option.some (Jvm.ClassFile.FieldType.object "java/util/BitSet"))).before a0 Z = true := hw _ (List.mem_of_getElem? (i := 32) rfl)
theorem w33 {a0 : Array Value} {Z : State} (hw : Hw a0 Z) : (Jvm.Cond.classLink "com/example/slotwright/slotwright/EnrolmentInstanceSuitsPinLaw" (7 : Nat) "java/util/BitSet").before a0 Z = true := hw _ (List.mem_of_getElem? (i := 33) rfl)
theorem w34 {a0 : Array Value} {Z : State} (hw : Hw a0 Z) : (Jvm.Cond.instantiable "java/util/BitSet" (3 : Nat)).before a0 Z = true := hw _ (List.mem_of_getElem? (i := 34) rfl)
theorem w35 {a0 : Array Value} {Z : State} (hw : Hw a0 Z) : (Jvm.Cond.initialized "java/util/BitSet").before a0 Z = true := hw _ (List.mem_of_getElem? (i := 35) rfl)
theorem w36 {a0 : Array Value} {Z : State} (hw : Hw a0 Z) : (Jvm.Cond.methodLink "com/example/slotwright/slotwright/EnrolmentInstanceSuitsPinLaw" (9 : Nat) ({ cls := "java/util/BitSet", name := "<init>", desc := "()V" } : Jvm.MethodName)).before a0 Z = true := hw _ (List.mem_of_getElem? (i := 36) rfl)
theorem w37 {a0 : Array Value} {Z : State} (hw : Hw a0 Z) : (Jvm.Cond.instanceMethod ({ cls := "java/util/BitSet", name := "<init>", desc := "()V" } : Jvm.MethodName)).before a0 Z = true := hw _ (List.mem_of_getElem? (i := 37) rfl)
theorem w38 {a0 : Array Value} {Z : State} (hw : Hw a0 Z) : (Jvm.Cond.code ({ cls := "java/util/BitSet", name := "<init>", desc := "()V" } : Jvm.MethodName) jdk_92_method_4_code (1 : Nat) (Option.none : Option Jvm.ClassFile.FieldType)).before a0 Z = true := hw _ (List.mem_of_getElem? (i := 38) rfl)
theorem w39 {a0 : Array Value} {Z : State} (hw : Hw a0 Z) : (Jvm.Cond.methodLink "java/util/BitSet" (21 : Nat) ({ cls := "java/lang/Object", name := "<init>", desc := "()V" } : Jvm.MethodName)).before a0 Z = true := hw _ (List.mem_of_getElem? (i := 39) rfl)
theorem w40 {a0 : Array Value} {Z : State} (hw : Hw a0 Z) : (Jvm.Cond.fieldLink "java/util/BitSet" (7 : Nat) "java/util/BitSet" "wordsInUse" "I").before a0 Z = true := hw _ (List.mem_of_getElem? (i := 40) rfl)
theorem w41 {a0 : Array Value} {Z : State} (hw : Hw a0 Z) : (Jvm.Cond.lays "java/util/BitSet" "java/util/BitSet" "wordsInUse" "I").before a0 Z = true := hw _ (List.mem_of_getElem? (i := 41) rfl)
theorem w42 {a0 : Array Value} {Z : State} (hw : Hw a0 Z) : (Jvm.Cond.fieldLink "java/util/BitSet" (24 : Nat) "java/util/BitSet" "sizeIsSticky" "Z").before a0 Z = true := hw _ (List.mem_of_getElem? (i := 42) rfl)
theorem w43 {a0 : Array Value} {Z : State} (hw : Hw a0 Z) : (Jvm.Cond.lays "java/util/BitSet" "java/util/BitSet" "sizeIsSticky" "Z").before a0 Z = true := hw _ (List.mem_of_getElem? (i := 43) rfl)
theorem w44 {a0 : Array Value} {Z : State} (hw : Hw a0 Z) : (Jvm.Cond.methodLink "java/util/BitSet" (27 : Nat) ({ cls := "java/util/BitSet", name := "initWords", desc := "(I)V" } : Jvm.MethodName)).before a0 Z = true := hw _ (List.mem_of_getElem? (i := 44) rfl)
theorem w45 {a0 : Array Value} {Z : State} (hw : Hw a0 Z) : (Jvm.Cond.instanceMethod ({ cls := "java/util/BitSet", name := "initWords", desc := "(I)V" } : Jvm.MethodName)).before a0 Z = true := hw _ (List.mem_of_getElem? (i := 45) rfl)
theorem w46 {a0 : Array Value} {Z : State} (hw : Hw a0 Z) : (Jvm.Cond.privateMethod ({ cls := "java/util/BitSet", name := "initWords", desc := "(I)V" } : Jvm.MethodName)).before a0 Z = true := hw _ (List.mem_of_getElem? (i := 46) rfl)
theorem w47 {a0 : Array Value} {Z : State} (hw : Hw a0 Z) : (Jvm.Cond.selects "java/util/BitSet" ({ cls := "java/util/BitSet", name := "initWords", desc := "(I)V" } : Jvm.MethodName) ({ cls := "java/util/BitSet", name := "initWords", desc := "(I)V" } : Jvm.MethodName)).before a0 Z = true := hw _ (List.mem_of_getElem? (i := 47) rfl)
theorem w48 {a0 : Array Value} {Z : State} (hw : Hw a0 Z) : (Jvm.Cond.code ({ cls := "java/util/BitSet", name := "initWords", desc := "(I)V" } : Jvm.MethodName) jdk_92_method_6_code (2 : Nat) (Option.none : Option Jvm.ClassFile.FieldType)).before a0 Z = true := hw _ (List.mem_of_getElem? (i := 48) rfl)
theorem w49 {a0 : Array Value} {Z : State} (hw : Hw a0 Z) : (Jvm.Cond.methodLink "java/util/BitSet" (52 : Nat) ({ cls := "java/util/BitSet", name := "wordIndex", desc := "(I)I" } : Jvm.MethodName)).before a0 Z = true := hw _ (List.mem_of_getElem? (i := 49) rfl)
theorem w50 {a0 : Array Value} {Z : State} (hw : Hw a0 Z) : (Jvm.Cond.static ({ cls := "java/util/BitSet", name := "wordIndex", desc := "(I)I" } : Jvm.MethodName)).before a0 Z = true := hw _ (List.mem_of_getElem? (i := 50) rfl)
theorem w51 {a0 : Array Value} {Z : State} (hw : Hw a0 Z) : (Jvm.Cond.code ({ cls := "java/util/BitSet", name := "wordIndex", desc := "(I)I" } : Jvm.MethodName) jdk_92_method_1_code (1 : Nat) (Option.some Jvm.ClassFile.FieldType.int)).before a0 Z = true := hw _ (List.mem_of_getElem? (i := 51) rfl)
theorem w52 {a0 : Array Value} {Z : State} (hw : Hw a0 Z) : (Jvm.Cond.arrayClass Jvm.ClassFile.FieldType.long).before a0 Z = true := hw _ (List.mem_of_getElem? (i := 52) rfl)
theorem w53 {a0 : Array Value} {Z : State} (hw : Hw a0 Z) : (Jvm.Cond.fieldLink "java/util/BitSet" (11 : Nat) "java/util/BitSet" "words" "[J").before a0 Z = true := hw _ (List.mem_of_getElem? (i := 53) rfl)
theorem w54 {a0 : Array Value} {Z : State} (hw : Hw a0 Z) : (Jvm.Cond.lays "java/util/BitSet" "java/util/BitSet" "words" "[J").before a0 Z = true := hw _ (List.mem_of_getElem? (i := 54) rfl)
theorem w55 {a0 : Array Value} {Z : State} (hw : Hw a0 Z) : (Jvm.Cond.methodLink "com/example/slotwright/slotwright/EnrolmentInstanceSuitsPinLaw" (10 : Nat) ({ cls := "java/util/BitSet", name := "set", desc := "(I)V" } : Jvm.MethodName)).before a0 Z = true := hw _ (List.mem_of_getElem? (i := 55) rfl)
theorem w56 {a0 : Array Value} {Z : State} (hw : Hw a0 Z) : (Jvm.Cond.declares ({ cls := "java/util/BitSet", name := "set", desc := "(I)V" } : Jvm.MethodName)).before a0 Z = true := hw _ (List.mem_of_getElem? (i := 56) rfl)
theorem w57 {a0 : Array Value} {Z : State} (hw : Hw a0 Z) : (Jvm.Cond.instanceMethod ({ cls := "java/util/BitSet", name := "set", desc := "(I)V" } : Jvm.MethodName)).before a0 Z = true := hw _ (List.mem_of_getElem? (i := 57) rfl)
theorem w58 {a0 : Array Value} {Z : State} (hw : Hw a0 Z) : (Jvm.Cond.selects "java/util/BitSet" ({ cls := "java/util/BitSet", name := "set", desc := "(I)V" } : Jvm.MethodName) ({ cls := "java/util/BitSet", name := "set", desc := "(I)V" } : Jvm.MethodName)).before a0 Z = true := hw _ (List.mem_of_getElem? (i := 58) rfl)
theorem w59 {a0 : Array Value} {Z : State} (hw : Hw a0 Z) : (Jvm.Cond.code ({ cls := "java/util/BitSet", name := "set", desc := "(I)V" } : Jvm.MethodName) jdk_92_method_19_code (3 : Nat) (Option.none : Option Jvm.ClassFile.FieldType)).before a0 Z = true := hw _ (List.mem_of_getElem? (i := 59) rfl)
theorem w60 {a0 : Array Value} {Z : State} (hw : Hw a0 Z) : (Jvm.Cond.methodLink "java/util/BitSet" (155 : Nat) ({ cls := "java/util/BitSet", name := "expandTo", desc := "(I)V" } : Jvm.MethodName)).before a0 Z = true := hw _ (List.mem_of_getElem? (i := 60) rfl)
theorem w61 {a0 : Array Value} {Z : State} (hw : Hw a0 Z) : (Jvm.Cond.instanceMethod ({ cls := "java/util/BitSet", name := "expandTo", desc := "(I)V" } : Jvm.MethodName)).before a0 Z = true := hw _ (List.mem_of_getElem? (i := 61) rfl)
theorem w62 {a0 : Array Value} {Z : State} (hw : Hw a0 Z) : (Jvm.Cond.privateMethod ({ cls := "java/util/BitSet", name := "expandTo", desc := "(I)V" } : Jvm.MethodName)).before a0 Z = true := hw _ (List.mem_of_getElem? (i := 62) rfl)
theorem w63 {a0 : Array Value} {Z : State} (hw : Hw a0 Z) : (Jvm.Cond.selects "java/util/BitSet" ({ cls := "java/util/BitSet", name := "expandTo", desc := "(I)V" } : Jvm.MethodName) ({ cls := "java/util/BitSet", name := "expandTo", desc := "(I)V" } : Jvm.MethodName)).before a0 Z = true := hw _ (List.mem_of_getElem? (i := 63) rfl)
theorem w64 {a0 : Array Value} {Z : State} (hw : Hw a0 Z) : (Jvm.Cond.code ({ cls := "java/util/BitSet", name := "expandTo", desc := "(I)V" } : Jvm.MethodName) jdk_92_method_15_code (3 : Nat) (Option.none : Option Jvm.ClassFile.FieldType)).before a0 Z = true := hw _ (List.mem_of_getElem? (i := 64) rfl)
theorem w65 {a0 : Array Value} {Z : State} (hw : Hw a0 Z) : (Jvm.Cond.methodLink "java/util/BitSet" (139 : Nat) ({ cls := "java/util/BitSet", name := "ensureCapacity", desc := "(I)V" } : Jvm.MethodName)).before a0 Z = true := hw _ (List.mem_of_getElem? (i := 65) rfl)
theorem w66 {a0 : Array Value} {Z : State} (hw : Hw a0 Z) : (Jvm.Cond.instanceMethod ({ cls := "java/util/BitSet", name := "ensureCapacity", desc := "(I)V" } : Jvm.MethodName)).before a0 Z = true := hw _ (List.mem_of_getElem? (i := 66) rfl)
theorem w67 {a0 : Array Value} {Z : State} (hw : Hw a0 Z) : (Jvm.Cond.privateMethod ({ cls := "java/util/BitSet", name := "ensureCapacity", desc := "(I)V" } : Jvm.MethodName)).before a0 Z = true := hw _ (List.mem_of_getElem? (i := 67) rfl)
theorem w68 {a0 : Array Value} {Z : State} (hw : Hw a0 Z) : (Jvm.Cond.selects "java/util/BitSet" ({ cls := "java/util/BitSet", name := "ensureCapacity", desc := "(I)V" } : Jvm.MethodName) ({ cls := "java/util/BitSet", name := "ensureCapacity", desc := "(I)V" } : Jvm.MethodName)).before a0 Z = true := hw _ (List.mem_of_getElem? (i := 68) rfl)
theorem w69 {a0 : Array Value} {Z : State} (hw : Hw a0 Z) : (Jvm.Cond.code ({ cls := "java/util/BitSet", name := "ensureCapacity", desc := "(I)V" } : Jvm.MethodName) jdk_92_method_14_code (3 : Nat) (Option.none : Option Jvm.ClassFile.FieldType)).before a0 Z = true := hw _ (List.mem_of_getElem? (i := 69) rfl)
theorem w70 {a0 : Array Value} {Z : State} (hw : Hw a0 Z) : (Jvm.Cond.methodLink "java/util/BitSet" (56 : Nat) ({ cls := "java/util/BitSet", name := "checkInvariants", desc := "()V" } : Jvm.MethodName)).before a0 Z = true := hw _ (List.mem_of_getElem? (i := 70) rfl)
theorem w71 {a0 : Array Value} {Z : State} (hw : Hw a0 Z) : (Jvm.Cond.instanceMethod ({ cls := "java/util/BitSet", name := "checkInvariants", desc := "()V" } : Jvm.MethodName)).before a0 Z = true := hw _ (List.mem_of_getElem? (i := 71) rfl)
theorem w72 {a0 : Array Value} {Z : State} (hw : Hw a0 Z) : (Jvm.Cond.privateMethod ({ cls := "java/util/BitSet", name := "checkInvariants", desc := "()V" } : Jvm.MethodName)).before a0 Z = true := hw _ (List.mem_of_getElem? (i := 72) rfl)
theorem w73 {a0 : Array Value} {Z : State} (hw : Hw a0 Z) : (Jvm.Cond.selects "java/util/BitSet" ({ cls := "java/util/BitSet", name := "checkInvariants", desc := "()V" } : Jvm.MethodName) ({ cls := "java/util/BitSet", name := "checkInvariants", desc := "()V" } : Jvm.MethodName)).before a0 Z = true := hw _ (List.mem_of_getElem? (i := 73) rfl)
theorem w74 {a0 : Array Value} {Z : State} (hw : Hw a0 Z) : (Jvm.Cond.code ({ cls := "java/util/BitSet", name := "checkInvariants", desc := "()V" } : Jvm.MethodName) jdk_92_method_2_code (1 : Nat) (Option.none : Option Jvm.ClassFile.FieldType)).before a0 Z = true := hw _ (List.mem_of_getElem? (i := 74) rfl)
theorem w75 {a0 : Array Value} {Z : State} (hw : Hw a0 Z) : (Jvm.Cond.fieldLink "java/util/BitSet" (3 : Nat) "java/util/BitSet" "$assertionsDisabled" "Z").before a0 Z = true := hw _ (List.mem_of_getElem? (i := 75) rfl)
theorem w76 {a0 : Array Value} {Z : State} (hw : Hw a0 Z) : (Jvm.Cond.methodLink "com/example/slotwright/slotwright/EnrolmentInstanceSuitsPinLaw" (25 : Nat) ({ cls := "com/example/slotwright/slotwright/EnrolmentInstance$Room", name := "<init>", desc := "(ILjava/util/BitSet;)V" } : Jvm.MethodName)).before a0 Z = true := hw _ (List.mem_of_getElem? (i := 76) rfl)
theorem w77 {a0 : Array Value} {Z : State} (hw : Hw a0 Z) : (Jvm.Cond.instanceMethod ({ cls := "com/example/slotwright/slotwright/EnrolmentInstance$Room", name := "<init>", desc := "(ILjava/util/BitSet;)V" } : Jvm.MethodName)).before a0 Z = true := hw _ (List.mem_of_getElem? (i := 77) rfl)
theorem w78 {a0 : Array Value} {Z : State} (hw : Hw a0 Z) : (Jvm.Cond.code ({ cls := "com/example/slotwright/slotwright/EnrolmentInstance$Room", name := "<init>", desc := "(ILjava/util/BitSet;)V" } : Jvm.MethodName) prog_10_method_1_code (3 : Nat) (Option.none : Option Jvm.ClassFile.FieldType)).before a0 Z = true := hw _ (List.mem_of_getElem? (i := 78) rfl)
theorem w79 {a0 : Array Value} {Z : State} (hw : Hw a0 Z) : (Jvm.Cond.methodLink "com/example/slotwright/slotwright/EnrolmentInstance$Room" (1 : Nat) ({ cls := "java/lang/Record", name := "<init>", desc := "()V" } : Jvm.MethodName)).before a0 Z = true := hw _ (List.mem_of_getElem? (i := 79) rfl)
theorem w80 {a0 : Array Value} {Z : State} (hw : Hw a0 Z) : (Jvm.Cond.instanceMethod ({ cls := "java/lang/Record", name := "<init>", desc := "()V" } : Jvm.MethodName)).before a0 Z = true := hw _ (List.mem_of_getElem? (i := 80) rfl)
theorem w82 {a0 : Array Value} {Z : State} (hw : Hw a0 Z) : (Jvm.Cond.initialized "java/lang/Record").before a0 Z = true := hw _ (List.mem_of_getElem? (i := 82) rfl)
theorem w83 {a0 : Array Value} {Z : State} (hw : Hw a0 Z) : (Jvm.Cond.code ({ cls := "java/lang/Record", name := "<init>", desc := "()V" } : Jvm.MethodName) jdk_30_method_1_code (1 : Nat) (Option.none : Option Jvm.ClassFile.FieldType)).before a0 Z = true := hw _ (List.mem_of_getElem? (i := 83) rfl)
theorem w84 {a0 : Array Value} {Z : State} (hw : Hw a0 Z) : (Jvm.Cond.methodLink "java/lang/Record" (1 : Nat) ({ cls := "java/lang/Object", name := "<init>", desc := "()V" } : Jvm.MethodName)).before a0 Z = true := hw _ (List.mem_of_getElem? (i := 84) rfl)
theorem w85 {a0 : Array Value} {Z : State} (hw : Hw a0 Z) : (Jvm.Cond.fieldLink "com/example/slotwright/slotwright/EnrolmentInstance$Room" (7 : Nat) "com/example/slotwright/slotwright/EnrolmentInstance$Room" "size" "I").before a0 Z = true := hw _ (List.mem_of_getElem? (i := 85) rfl)
theorem w86 {a0 : Array Value} {Z : State} (hw : Hw a0 Z) : (Jvm.Cond.laysFinal "com/example/slotwright/slotwright/EnrolmentInstance$Room" "com/example/slotwright/slotwright/EnrolmentInstance$Room" "size" "I").before a0 Z = true := hw _ (List.mem_of_getElem? (i := 86) rfl)
theorem w87 {a0 : Array Value} {Z : State} (hw : Hw a0 Z) : (Jvm.Cond.fieldLink "com/example/slotwright/slotwright/EnrolmentInstance$Room" (13 : Nat) "com/example/slotwright/slotwright/EnrolmentInstance$Room" "features" "Ljava/util/BitSet;").before a0 Z = true := hw _ (List.mem_of_getElem? (i := 87) rfl)
theorem w88 {a0 : Array Value} {Z : State} (hw : Hw a0 Z) : (Jvm.Cond.laysFinal "com/example/slotwright/slotwright/EnrolmentInstance$Room" "com/example/slotwright/slotwright/EnrolmentInstance$Room" "features" "Ljava/util/BitSet;").before a0 Z = true := hw _ (List.mem_of_getElem? (i := 88) rfl)
theorem w89 {a0 : Array Value} {Z : State} (hw : Hw a0 Z) : (Jvm.Cond.methodLink "com/example/slotwright/slotwright/EnrolmentInstanceSuitsPinLaw" (28 : Nat) ({ cls := "java/util/ArrayList", name := "add", desc := "(Ljava/lang/Object;)Z" } : Jvm.MethodName)).before a0 Z = true := hw _ (List.mem_of_getElem? (i := 89) rfl)
theorem w90 {a0 : Array Value} {Z : State} (hw : Hw a0 Z) : (Jvm.Cond.declares ({ cls := "java/util/ArrayList", name := "add", desc := "(Ljava/lang/Object;)Z" } : Jvm.MethodName)).before a0 Z = true := hw _ (List.mem_of_getElem? (i := 90) rfl)
theorem w91 {a0 : Array Value} {Z : State} (hw : Hw a0 Z) : (Jvm.Cond.instanceMethod ({ cls := "java/util/ArrayList", name := "add", desc := "(Ljava/lang/Object;)Z" } : Jvm.MethodName)).before a0 Z = true := hw _ (List.mem_of_getElem? (i := 91) rfl)
theorem w92 {a0 : Array Value} {Z : State} (hw : Hw a0 Z) : (Jvm.Cond.selects "java/util/ArrayList" ({ cls := "java/util/ArrayList", name := "add", desc := "(Ljava/lang/Object;)Z" } : Jvm.MethodName) ({ cls := "java/util/ArrayList", name := "add", desc := "(Ljava/lang/Object;)Z" } : Jvm.MethodName)).before a0 Z = true := hw _ (List.mem_of_getElem? (i := 92) rfl)
theorem w93 {a0 : Array Value} {Z : State} (hw : Hw a0 Z) : (Jvm.Cond.code ({ cls := "java/util/ArrayList", name := "add", desc := "(Ljava/lang/Object;)Z" } : Jvm.MethodName) jdk_38_method_25_code (2 : Nat) (Option.some Jvm.ClassFile.FieldType.boolean)).before a0 Z = true := hw _ (List.mem_of_getElem? (i := 93) rfl)
theorem w94 {a0 : Array Value} {Z : State} (hw : Hw a0 Z) : (Jvm.Cond.fieldLink "java/util/ArrayList" (63 : Nat) "java/util/ArrayList" "modCount" "I").before a0 Z = true := hw _ (List.mem_of_getElem? (i := 94) rfl)
theorem w95 {a0 : Array Value} {Z : State} (hw : Hw a0 Z) : (Jvm.Cond.sameField "java/util/ArrayList" "java/util/AbstractList" "modCount" "I").before a0 Z = true := hw _ (List.mem_of_getElem? (i := 95) rfl)
theorem w96 {a0 : Array Value} {Z : State} (hw : Hw a0 Z) : (Jvm.Cond.fieldLink "java/util/ArrayList" (48 : Nat) "java/util/ArrayList" "size" "I").before a0 Z = true := hw _ (List.mem_of_getElem? (i := 96) rfl)
theorem w97 {a0 : Array Value} {Z : State} (hw : Hw a0 Z) : (Jvm.Cond.lays "java/util/ArrayList" "java/util/ArrayList" "size" "I").before a0 Z = true := hw _ (List.mem_of_getElem? (i := 97) rfl)
theorem w98 {a0 : Array Value} {Z : State} (hw : Hw a0 Z) : (Jvm.Cond.methodLink "java/util/ArrayList" (131 : Nat) ({ cls := "java/util/ArrayList", name := "add", desc := "(Ljava/lang/Object;[Ljava/lang/Object;I)V" } : Jvm.MethodName)).before a0 Z = true := hw _ (List.mem_of_getElem? (i := 98) rfl)
theorem w99 {a0 : Array Value} {Z : State} (hw : Hw a0 Z) : (Jvm.Cond.instanceMethod ({ cls := "java/util/ArrayList", name := "add", desc := "(Ljava/lang/Object;[Ljava/lang/Object;I)V" } : Jvm.MethodName)).before a0 Z = true := hw _ (List.mem_of_getElem? (i := 99) rfl)
theorem w100 {a0 : Array Value} {Z : State} (hw : Hw a0 Z) : (Jvm.Cond.privateMethod ({ cls := "java/util/ArrayList", name := "add", desc := "(Ljava/lang/Object;[Ljava/lang/Object;I)V" } : Jvm.MethodName)).before a0 Z = true := hw _ (List.mem_of_getElem? (i := 100) rfl)
theorem w101 {a0 : Array Value} {Z : State} (hw : Hw a0 Z) : (Jvm.Cond.selects "java/util/ArrayList" ({ cls := "java/util/ArrayList", name := "add", desc := "(Ljava/lang/Object;[Ljava/lang/Object;I)V" } : Jvm.MethodName) ({ cls := "java/util/ArrayList", name := "add", desc := "(Ljava/lang/Object;[Ljava/lang/Object;I)V" } : Jvm.MethodName)).before a0 Z = true := hw _ (List.mem_of_getElem? (i := 101) rfl)
theorem w102 {a0 : Array Value} {Z : State} (hw : Hw a0 Z) : (Jvm.Cond.code ({ cls := "java/util/ArrayList", name := "add", desc := "(Ljava/lang/Object;[Ljava/lang/Object;I)V" } : Jvm.MethodName) jdk_38_method_24_code (4 : Nat) (Option.none : Option Jvm.ClassFile.FieldType)).before a0 Z = true := hw _ (List.mem_of_getElem? (i := 102) rfl)
theorem w103 {a0 : Array Value} {Z : State} (hw : Hw a0 Z) : (Jvm.Cond.methodLink "java/util/ArrayList" (129 : Nat) ({ cls := "java/util/ArrayList", name := "grow", desc := "()[Ljava/lang/Object;" } : Jvm.MethodName)).before a0 Z = true := hw _ (List.mem_of_getElem? (i := 103) rfl)
theorem w104 {a0 : Array Value} {Z : State} (hw : Hw a0 Z) : (Jvm.Cond.instanceMethod ({ cls := "java/util/ArrayList", name := "grow", desc := "()[Ljava/lang/Object;" } : Jvm.MethodName)).before a0 Z = true := hw _ (List.mem_of_getElem? (i := 104) rfl)
theorem w105 {a0 : Array Value} {Z : State} (hw : Hw a0 Z) : (Jvm.Cond.privateMethod ({ cls := "java/util/ArrayList", name := "grow", desc := "()[Ljava/lang/Object;" } : Jvm.MethodName)).before a0 Z = true := hw _ (List.mem_of_getElem? (i := 105) rfl)
theorem w106 {a0 : Array Value} {Z : State} (hw : Hw a0 Z) : (Jvm.Cond.selects "java/util/ArrayList" ({ cls := "java/util/ArrayList", name := "grow", desc := "()[Ljava/lang/Object;" } : Jvm.MethodName) ({ cls := "java/util/ArrayList", name := "grow", desc := "()[Ljava/lang/Object;" } : Jvm.MethodName)).before a0 Z = true := hw _ (List.mem_of_getElem? (i := 106) rfl)
theorem w107 {a0 : Array Value} {Z : State} (hw : Hw a0 Z) : (Jvm.Cond.code ({ cls := "java/util/ArrayList", name := "grow", desc := "()[Ljava/lang/Object;" } : Jvm.MethodName) jdk_38_method_7_code (1 : Nat) (Option.some (Jvm.ClassFile.FieldType.array (Jvm.ClassFile.FieldType.object "java/lang/Object")))).before a0 Z = true := hw _ (List.mem_of_getElem? (i := 107) rfl)
theorem w108 {a0 : Array Value} {Z : State} (hw : Hw a0 Z) : (Jvm.Cond.methodLink "java/util/ArrayList" (69 : Nat) ({ cls := "java/util/ArrayList", name := "grow", desc := "(I)[Ljava/lang/Object;" } : Jvm.MethodName)).before a0 Z = true := hw _ (List.mem_of_getElem? (i := 108) rfl)
theorem w109 {a0 : Array Value} {Z : State} (hw : Hw a0 Z) : (Jvm.Cond.instanceMethod ({ cls := "java/util/ArrayList", name := "grow", desc := "(I)[Ljava/lang/Object;" } : Jvm.MethodName)).before a0 Z = true := hw _ (List.mem_of_getElem? (i := 109) rfl)
theorem w110 {a0 : Array Value} {Z : State} (hw : Hw a0 Z) : (Jvm.Cond.privateMethod ({ cls := "java/util/ArrayList", name := "grow", desc := "(I)[Ljava/lang/Object;" } : Jvm.MethodName)).before a0 Z = true := hw _ (List.mem_of_getElem? (i := 110) rfl)
theorem w111 {a0 : Array Value} {Z : State} (hw : Hw a0 Z) : (Jvm.Cond.selects "java/util/ArrayList" ({ cls := "java/util/ArrayList", name := "grow", desc := "(I)[Ljava/lang/Object;" } : Jvm.MethodName) ({ cls := "java/util/ArrayList", name := "grow", desc := "(I)[Ljava/lang/Object;" } : Jvm.MethodName)).before a0 Z = true := hw _ (List.mem_of_getElem? (i := 111) rfl)
theorem w112 {a0 : Array Value} {Z : State} (hw : Hw a0 Z) : (Jvm.Cond.code ({ cls := "java/util/ArrayList", name := "grow", desc := "(I)[Ljava/lang/Object;" } : Jvm.MethodName) jdk_38_method_6_code (4 : Nat) (Option.some (Jvm.ClassFile.FieldType.array (Jvm.ClassFile.FieldType.object "java/lang/Object")))).before a0 Z = true := hw _ (List.mem_of_getElem? (i := 112) rfl)
theorem w113 {a0 : Array Value} {Z : State} (hw : Hw a0 Z) : (Jvm.Cond.methodLink "java/util/ArrayList" (79 : Nat) ({ cls := "java/lang/Math", name := "max", desc := "(II)I" } : Jvm.MethodName)).before a0 Z = true := hw _ (List.mem_of_getElem? (i := 113) rfl)
theorem w114 {a0 : Array Value} {Z : State} (hw : Hw a0 Z) : (Jvm.Cond.static ({ cls := "java/lang/Math", name := "max", desc := "(II)I" } : Jvm.MethodName)).before a0 Z = true := hw _ (List.mem_of_getElem? (i := 114) rfl)
theorem w115 {a0 : Array Value} {Z : State} (hw : Hw a0 Z) : (Jvm.Cond.initialized "java/lang/Math").before a0 Z = true := hw _ (List.mem_of_getElem? (i := 115) rfl)
theorem w116 {a0 : Array Value} {Z : State} (hw : Hw a0 Z) : (Jvm.Cond.code ({ cls := "java/lang/Math", name := "max", desc := "(II)I" } : Jvm.MethodName) jdk_29_method_65_code (2 : Nat) (Option.some Jvm.ClassFile.FieldType.int)).before a0 Z = true := hw _ (List.mem_of_getElem? (i := 116) rfl)
theorem w117 {a0 : Array Value} {Z : State} (hw : Hw a0 Z) : (Jvm.Cond.classLink "java/util/ArrayList" (7 : Nat) "java/lang/Object").before a0 Z = true := hw _ (List.mem_of_getElem? (i := 117) rfl)
theorem w118 {a0 : Array Value} {Z : State} (hw : Hw a0 Z) : (Jvm.Cond.arrayOver (Jvm.ClassFile.FieldType.object "java/lang/Object")).before a0 Z = true := hw _ (List.mem_of_getElem? (i := 118) rfl)
theorem w119 {a0 : Array Value} {Z : State} (hw : Hw a0 Z) : (Jvm.Cond.castable "com/example/slotwright/slotwright/EnrolmentInstance$Room" "java/lang/Object").before a0 Z = true := hw _ (List.mem_of_getElem? (i := 119) rfl)
theorem w120 {a0 : Array Value} {Z : State} (hw : Hw a0 Z) : (Jvm.Cond.castable "java/util/BitSet" "java/lang/Object").before a0 Z = true := hw _ (List.mem_of_getElem? (i := 120) rfl)
theorem w121 {a0 : Array Value} {Z : State} (hw : Hw a0 Z) : (Jvm.Cond.classLink "com/example/slotwright/slotwright/EnrolmentInstanceSuitsPinLaw" (32 : Nat) "com/example/slotwright/slotwright/EnrolmentInstance").before a0 Z = true := hw _ (List.mem_of_getElem? (i := 121) rfl)
theorem w122 {a0 : Array Value} {Z : State} (hw : Hw a0 Z) : (Jvm.Cond.instantiable "com/example/slotwright/slotwright/EnrolmentInstance" (4 : Nat)).before a0 Z = true := hw _ (List.mem_of_getElem? (i := 122) rfl)
theorem w123 {a0 : Array Value} {Z : State} (hw : Hw a0 Z) : (Jvm.Cond.initialized "com/example/slotwright/slotwright/EnrolmentInstance").before a0 Z = true := hw _ (List.mem_of_getElem? (i := 123) rfl)
theorem w124 {a0 : Array Value} {Z : State} (hw : Hw a0 Z) : (Jvm.Cond.methodLink "com/example/slotwright/slotwright/EnrolmentInstanceSuitsPinLaw" (34 : Nat) ({ cls := "com/example/slotwright/slotwright/EnrolmentInstance", name := "<init>", desc := "(ILjava/util/List;Ljava/util/List;Ljava/util/List;)V" } : Jvm.MethodName)).before a0 Z = true := hw _ (List.mem_of_getElem? (i := 124) rfl)
theorem w125 {a0 : Array Value} {Z : State} (hw : Hw a0 Z) : (Jvm.Cond.instanceMethod ({ cls := "com/example/slotwright/slotwright/EnrolmentInstance", name := "<init>", desc := "(ILjava/util/List;Ljava/util/List;Ljava/util/List;)V" } : Jvm.MethodName)).before a0 Z = true := hw _ (List.mem_of_getElem? (i := 125) rfl)
theorem w126 {a0 : Array Value} {Z : State} (hw : Hw a0 Z) : (Jvm.Cond.code ({ cls := "com/example/slotwright/slotwright/EnrolmentInstance", name := "<init>", desc := "(ILjava/util/List;Ljava/util/List;Ljava/util/List;)V" } : Jvm.MethodName) prog_9_method_1_code (5 : Nat) (Option.none : Option Jvm.ClassFile.FieldType)).before a0 Z = true := hw _ (List.mem_of_getElem? (i := 126) rfl)
theorem w127 {a0 : Array Value} {Z : State} (hw : Hw a0 Z) : (Jvm.Cond.methodLink "com/example/slotwright/slotwright/EnrolmentInstance" (3 : Nat) ({ cls := "java/lang/Object", name := "<init>", desc := "()V" } : Jvm.MethodName)).before a0 Z = true := hw _ (List.mem_of_getElem? (i := 127) rfl)
theorem w128 {a0 : Array Value} {Z : State} (hw : Hw a0 Z) : (Jvm.Cond.fieldLink "com/example/slotwright/slotwright/EnrolmentInstance" (9 : Nat) "com/example/slotwright/slotwright/EnrolmentInstance" "events" "I").before a0 Z = true := hw _ (List.mem_of_getElem? (i := 128) rfl)
theorem w129 {a0 : Array Value} {Z : State} (hw : Hw a0 Z) : (Jvm.Cond.laysFinal "com/example/slotwright/slotwright/EnrolmentInstance" "com/example/slotwright/slotwright/EnrolmentInstance" "events" "I").before a0 Z = true := hw _ (List.mem_of_getElem? (i := 129) rfl)
theorem w130 {a0 : Array Value} {Z : State} (hw : Hw a0 Z) : (Jvm.Cond.methodLink "com/example/slotwright/slotwright/EnrolmentInstance" (13 : Nat) ({ cls := "java/util/List", name := "copyOf", desc := "(Ljava/util/Collection;)Ljava/util/List;" } : Jvm.MethodName)).before a0 Z = true := hw _ (List.mem_of_getElem? (i := 130) rfl)
theorem w131 {a0 : Array Value} {Z : State} (hw : Hw a0 Z) : (Jvm.Cond.static ({ cls := "java/util/List", name := "copyOf", desc := "(Ljava/util/Collection;)Ljava/util/List;" } : Jvm.MethodName)).before a0 Z = true := hw _ (List.mem_of_getElem? (i := 131) rfl)
theorem w132 {a0 : Array Value} {Z : State} (hw : Hw a0 Z) : (Jvm.Cond.initialized "java/util/List").before a0 Z = true := hw _ (List.mem_of_getElem? (i := 132) rfl)
theorem w133 {a0 : Array Value} {Z : State} (hw : Hw a0 Z) : (Jvm.Cond.code ({ cls := "java/util/List", name := "copyOf", desc := "(Ljava/util/Collection;)Ljava/util/List;" } : Jvm.MethodName) jdk_40_method_48_code (1 : Nat) (Option.some (Jvm.ClassFile.FieldType.object "java/util/List"))).before a0 Z = true := hw _ (List.mem_of_getElem? (i := 133) rfl)
theorem w134 {a0 : Array Value} {Z : State} (hw : Hw a0 Z) : (Jvm.Cond.methodLink "java/util/List" (112 : Nat) ({ cls := "java/util/ImmutableCollections", name := "listCopy", desc := "(Ljava/util/Collection;)Ljava/util/List;" } : Jvm.MethodName)).before a0 Z = true := hw _ (List.mem_of_getElem? (i := 134) rfl)
theorem w135 {a0 : Array Value} {Z : State} (hw : Hw a0 Z) : (Jvm.Cond.static ({ cls := "java/util/ImmutableCollections", name := "listCopy", desc := "(Ljava/util/Collection;)Ljava/util/List;" } : Jvm.MethodName)).before a0 Z = true := hw _ (List.mem_of_getElem? (i := 135) rfl)
theorem w136 {a0 : Array Value} {Z : State} (hw : Hw a0 Z) : (Jvm.Cond.initialized "java/util/ImmutableCollections").before a0 Z = true := hw _ (List.mem_of_getElem? (i := 136) rfl)
theorem w137 {a0 : Array Value} {Z : State} (hw : Hw a0 Z) : (Jvm.Cond.code ({ cls := "java/util/ImmutableCollections", name := "listCopy", desc := "(Ljava/util/Collection;)Ljava/util/List;" } : Jvm.MethodName) jdk_56_method_3_code (2 : Nat) (Option.some (Jvm.ClassFile.FieldType.object "java/util/List"))).before a0 Z = true := hw _ (List.mem_of_getElem? (i := 137) rfl)
theorem w138 {a0 : Array Value} {Z : State} (hw : Hw a0 Z) : (Jvm.Cond.classLink "java/util/ImmutableCollections" (10 : Nat) "java/util/ImmutableCollections$List12").before a0 Z = true := hw _ (List.mem_of_getElem? (i := 138) rfl)
theorem w139 {a0 : Array Value} {Z : State} (hw : Hw a0 Z) : (Jvm.Cond.superclass "java/util/ArrayList" "java/util/AbstractList").before a0 Z = true := hw _ (List.mem_of_getElem? (i := 139) rfl)
theorem w140 {a0 : Array Value} {Z : State} (hw : Hw a0 Z) : (Jvm.Cond.superclass "java/util/AbstractList" "java/util/AbstractCollection").before a0 Z = true := hw _ (List.mem_of_getElem? (i := 140) rfl)
theorem w141 {a0 : Array Value} {Z : State} (hw : Hw a0 Z) : (Jvm.Cond.superclass "java/util/AbstractCollection" "java/lang/Object").before a0 Z = true := hw _ (List.mem_of_getElem? (i := 141) rfl)
theorem w142 {a0 : Array Value} {Z : State} (hw : Hw a0 Z) : (Jvm.Cond.noSuperclass "java/lang/Object").before a0 Z = true := hw _ (List.mem_of_getElem? (i := 142) rfl)
theorem w143 {a0 : Array Value} {Z : State} (hw : Hw a0 Z) : (Jvm.Cond.classLink "java/util/ImmutableCollections" (12 : Nat) "java/util/ImmutableCollections$ListN").before a0 Z = true := hw _ (List.mem_of_getElem? (i := 143) rfl)
theorem w144 {a0 : Array Value} {Z : State} (hw : Hw a0 Z) : (Jvm.Cond.methodLink "java/util/ImmutableCollections" (20 : Nat) ({ cls := "java/util/Collection", name := "isEmpty", desc := "()Z" } : Jvm.MethodName)).before a0 Z = true := hw _ (List.mem_of_getElem? (i := 144) rfl)
theorem w145 {a0 : Array Value} {Z : State} (hw : Hw a0 Z) : (Jvm.Cond.declares ({ cls := "java/util/Collection", name := "isEmpty", desc := "()Z" } : Jvm.MethodName)).before a0 Z = true := hw _ (List.mem_of_getElem? (i := 145) rfl)
theorem w146 {a0 : Array Value} {Z : State} (hw : Hw a0 Z) : (Jvm.Cond.interfaceMethod "java/util/Collection" "java/util/Collection" "isEmpty" "()Z").before a0 Z = true := hw _ (List.mem_of_getElem? (i := 146) rfl)
theorem w147 {a0 : Array Value} {Z : State} (hw : Hw a0 Z) : (Jvm.Cond.selects "java/util/ArrayList" ({ cls := "java/util/Collection", name := "isEmpty", desc := "()Z" } : Jvm.MethodName) ({ cls := "java/util/ArrayList", name := "isEmpty", desc := "()Z" } : Jvm.MethodName)).before a0 Z = true := hw _ (List.mem_of_getElem? (i := 147) rfl)
theorem w148 {a0 : Array Value} {Z : State} (hw : Hw a0 Z) : (Jvm.Cond.instanceMethod ({ cls := "java/util/ArrayList", name := "isEmpty", desc := "()Z" } : Jvm.MethodName)).before a0 Z = true := hw _ (List.mem_of_getElem? (i := 148) rfl)
theorem w149 {a0 : Array Value} {Z : State} (hw : Hw a0 Z) : (Jvm.Cond.publicMethod ({ cls := "java/util/ArrayList", name := "isEmpty", desc := "()Z" } : Jvm.MethodName)).before a0 Z = true := hw _ (List.mem_of_getElem? (i := 149) rfl)
theorem w150 {a0 : Array Value} {Z : State} (hw : Hw a0 Z) : (Jvm.Cond.unhidden "java/util/ArrayList" "isEmpty" "()Z").before a0 Z = true := hw _ (List.mem_of_getElem? (i := 150) rfl)
theorem w151 {a0 : Array Value} {Z : State} (hw : Hw a0 Z) : (Jvm.Cond.castable "java/util/ArrayList" "java/util/Collection").before a0 Z = true := hw _ (List.mem_of_getElem? (i := 151) rfl)
theorem w152 {a0 : Array Value} {Z : State} (hw : Hw a0 Z) : (Jvm.Cond.code ({ cls := "java/util/ArrayList", name := "isEmpty", desc := "()Z" } : Jvm.MethodName) jdk_38_method_9_code (1 : Nat) (Option.some Jvm.ClassFile.FieldType.boolean)).before a0 Z = true := hw _ (List.mem_of_getElem? (i := 152) rfl)
theorem w153 {a0 : Array Value} {Z : State} (hw : Hw a0 Z) : (Jvm.Cond.methodLink "java/util/ImmutableCollections" (30 : Nat) ({ cls := "java/util/Collection", name := "toArray", desc := "()[Ljava/lang/Object;" } : Jvm.MethodName)).before a0 Z = true := hw _ (List.mem_of_getElem? (i := 153) rfl)
theorem w154 {a0 : Array Value} {Z : State} (hw : Hw a0 Z) : (Jvm.Cond.declares ({ cls := "java/util/Collection", name := "toArray", desc := "()[Ljava/lang/Object;" } : Jvm.MethodName)).before a0 Z = true := hw _ (List.mem_of_getElem? (i := 154) rfl)
theorem w155 {a0 : Array Value} {Z : State} (hw : Hw a0 Z) : (Jvm.Cond.interfaceMethod "java/util/Collection" "java/util/Collection" "toArray" "()[Ljava/lang/Object;").before a0 Z = true := hw _ (List.mem_of_getElem? (i := 155) rfl)
theorem w156 {a0 : Array Value} {Z : State} (hw : Hw a0 Z) : (Jvm.Cond.selects "java/util/ArrayList" ({ cls := "java/util/Collection", name := "toArray", desc := "()[Ljava/lang/Object;" } : Jvm.MethodName) ({ cls := "java/util/ArrayList", name := "toArray", desc := "()[Ljava/lang/Object;" } : Jvm.MethodName)).before a0 Z = true := hw _ (List.mem_of_getElem? (i := 156) rfl)
theorem w157 {a0 : Array Value} {Z : State} (hw : Hw a0 Z) : (Jvm.Cond.instanceMethod ({ cls := "java/util/ArrayList", name := "toArray", desc := "()[Ljava/lang/Object;" } : Jvm.MethodName)).before a0 Z = true := hw _ (List.mem_of_getElem? (i := 157) rfl)
theorem w158 {a0 : Array Value} {Z : State} (hw : Hw a0 Z) : (Jvm.Cond.publicMethod ({ cls := "java/util/ArrayList", name := "toArray", desc := "()[Ljava/lang/Object;" } : Jvm.MethodName)).before a0 Z = true := hw _ (List.mem_of_getElem? (i := 158) rfl)
theorem w159 {a0 : Array Value} {Z : State} (hw : Hw a0 Z) : (Jvm.Cond.unhidden "java/util/ArrayList" "toArray" "()[Ljava/lang/Object;").before a0 Z = true := hw _ (List.mem_of_getElem? (i := 159) rfl)
theorem w160 {a0 : Array Value} {Z : State} (hw : Hw a0 Z) : (Jvm.Cond.code ({ cls := "java/util/ArrayList", name := "toArray", desc := "()[Ljava/lang/Object;" } : Jvm.MethodName) jdk_38_method_16_code (1 : Nat) (Option.some (Jvm.ClassFile.FieldType.array (Jvm.ClassFile.FieldType.object "java/lang/Object")))).before a0 Z = true := hw _ (List.mem_of_getElem? (i := 160) rfl)
theorem w161 {a0 : Array Value} {Z : State} (hw : Hw a0 Z) : (Jvm.Cond.methodLink "java/util/ArrayList" (66 : Nat) ({ cls := "java/util/Arrays", name := "copyOf", desc := "([Ljava/lang/Object;I)[Ljava/lang/Object;" } : Jvm.MethodName)).before a0 Z = true := hw _ (List.mem_of_getElem? (i := 161) rfl)
theorem w162 {a0 : Array Value} {Z : State} (hw : Hw a0 Z) : (Jvm.Cond.static ({ cls := "java/util/Arrays", name := "copyOf", desc := "([Ljava/lang/Object;I)[Ljava/lang/Object;" } : Jvm.MethodName)).before a0 Z = true := hw _ (List.mem_of_getElem? (i := 162) rfl)
theorem w163 {a0 : Array Value} {Z : State} (hw : Hw a0 Z) : (Jvm.Cond.initialized "java/util/Arrays").before a0 Z = true := hw _ (List.mem_of_getElem? (i := 163) rfl)
theorem w164 {a0 : Array Value} {Z : State} (hw : Hw a0 Z) : (Jvm.Cond.code ({ cls := "java/util/Arrays", name := "copyOf", desc := "([Ljava/lang/Object;I)[Ljava/lang/Object;" } : Jvm.MethodName) jdk_65_method_119_code (2 : Nat) (Option.some (Jvm.ClassFile.FieldType.array (Jvm.ClassFile.FieldType.object "java/lang/Object")))).before a0 Z = true := hw _ (List.mem_of_getElem? (i := 164) rfl)
theorem w165 {a0 : Array Value} {Z : State} (hw : Hw a0 Z) : (Jvm.Cond.methodLink "java/util/Arrays" (86 : Nat) ({ cls := "java/lang/Object", name := "getClass", desc := "()Ljava/lang/Class;" } : Jvm.MethodName)).before a0 Z = true := hw _ (List.mem_of_getElem? (i := 165) rfl)
theorem w166 {a0 : Array Value} {Z : State} (hw : Hw a0 Z) : (Jvm.Cond.declares ({ cls := "java/lang/Object", name := "getClass", desc := "()Ljava/lang/Class;" } : Jvm.MethodName)).before a0 Z = true := hw _ (List.mem_of_getElem? (i := 166) rfl)
theorem w167 {a0 : Array Value} {Z : State} (hw : Hw a0 Z) : (Jvm.Cond.instanceMethod ({ cls := "java/lang/Object", name := "getClass", desc := "()Ljava/lang/Class;" } : Jvm.MethodName)).before a0 Z = true := hw _ (List.mem_of_getElem? (i := 167) rfl)
theorem w168 {a0 : Array Value} {Z : State} (hw : Hw a0 Z) : (Jvm.Cond.selects "[Ljava/lang/Object;" ({ cls := "java/lang/Object", name := "getClass", desc := "()Ljava/lang/Class;" } : Jvm.MethodName) ({ cls := "java/lang/Object", name := "getClass", desc := "()Ljava/lang/Class;" } : Jvm.MethodName)).before a0 Z = true := hw _ (List.mem_of_getElem? (i := 168) rfl)
theorem w169 {a0 : Array Value} {Z : State} (hw : Hw a0 Z) : (Jvm.Cond.native ({ cls := "java/lang/Object", name := "getClass", desc := "()Ljava/lang/Class;" } : Jvm.MethodName)).before a0 Z = true := hw _ (List.mem_of_getElem? (i := 169) rfl)
theorem w171 {a0 : Array Value} {Z : State} (hw : Hw a0 Z) : (Jvm.Cond.methodLink "java/util/Arrays" (300 : Nat) ({ cls := "java/util/Arrays", name := "copyOf", desc := "([Ljava/lang/Object;ILjava/lang/Class;)[Ljava/lang/Object;" } : Jvm.MethodName)).before a0 Z = true := hw _ (List.mem_of_getElem? (i := 171) rfl)
theorem w172 {a0 : Array Value} {Z : State} (hw : Hw a0 Z) : (Jvm.Cond.static ({ cls := "java/util/Arrays", name := "copyOf", desc := "([Ljava/lang/Object;ILjava/lang/Class;)[Ljava/lang/Object;" } : Jvm.MethodName)).before a0 Z = true := hw _ (List.mem_of_getElem? (i := 172) rfl)
theorem w173 {a0 : Array Value} {Z : State} (hw : Hw a0 Z) : (Jvm.Cond.code ({ cls := "java/util/Arrays", name := "copyOf", desc := "([Ljava/lang/Object;ILjava/lang/Class;)[Ljava/lang/Object;" } : Jvm.MethodName) jdk_65_method_120_code (4 : Nat) (Option.some (Jvm.ClassFile.FieldType.array (Jvm.ClassFile.FieldType.object "java/lang/Object")))).before a0 Z = true := hw _ (List.mem_of_getElem? (i := 173) rfl)
theorem w174 {a0 : Array Value} {Z : State} (hw : Hw a0 Z) : (Jvm.Cond.classLink "java/util/Arrays" (110 : Nat) "[Ljava/lang/Object;").before a0 Z = true := hw _ (List.mem_of_getElem? (i := 174) rfl)
theorem w175 {a0 : Array Value} {Z : State} (hw : Hw a0 Z) : (Jvm.Cond.classLink "java/util/Arrays" (2 : Nat) "java/lang/Object").before a0 Z = true := hw _ (List.mem_of_getElem? (i := 175) rfl)
theorem w176 {a0 : Array Value} {Z : State} (hw : Hw a0 Z) : (Jvm.Cond.methodLink "java/util/Arrays" (304 : Nat) ({ cls := "java/lang/Math", name := "min", desc := "(II)I" } : Jvm.MethodName)).before a0 Z = true := hw _ (List.mem_of_getElem? (i := 176) rfl)
theorem w177 {a0 : Array Value} {Z : State} (hw : Hw a0 Z) : (Jvm.Cond.static ({ cls := "java/lang/Math", name := "min", desc := "(II)I" } : Jvm.MethodName)).before a0 Z = true := hw _ (List.mem_of_getElem? (i := 177) rfl)
theorem w178 {a0 : Array Value} {Z : State} (hw : Hw a0 Z) : (Jvm.Cond.code ({ cls := "java/lang/Math", name := "min", desc := "(II)I" } : Jvm.MethodName) jdk_29_method_69_code (2 : Nat) (Option.some Jvm.ClassFile.FieldType.int)).before a0 Z = true := hw _ (List.mem_of_getElem? (i := 178) rfl)
theorem w179 {a0 : Array Value} {Z : State} (hw : Hw a0 Z) : (Jvm.Cond.methodLink "java/util/Arrays" (150 : Nat) ({ cls := "java/lang/System", name := "arraycopy", desc := "(Ljava/lang/Object;ILjava/lang/Object;II)V" } : Jvm.MethodName)).before a0 Z = true := hw _ (List.mem_of_getElem? (i := 179) rfl)
theorem w180 {a0 : Array Value} {Z : State} (hw : Hw a0 Z) : (Jvm.Cond.static ({ cls := "java/lang/System", name := "arraycopy", desc := "(Ljava/lang/Object;ILjava/lang/Object;II)V" } : Jvm.MethodName)).before a0 Z = true := hw _ (List.mem_of_getElem? (i := 180) rfl)
theorem w181 {a0 : Array Value} {Z : State} (hw : Hw a0 Z) : (Jvm.Cond.initialized "java/lang/System").before a0 Z = true := hw _ (List.mem_of_getElem? (i := 181) rfl)
theorem w182 {a0 : Array Value} {Z : State} (hw : Hw a0 Z) : (Jvm.Cond.native ({ cls := "java/lang/System", name := "arraycopy", desc := "(Ljava/lang/Object;ILjava/lang/Object;II)V" } : Jvm.MethodName)).before a0 Z = true := hw _ (List.mem_of_getElem? (i := 182) rfl)
theorem w183 {a0 : Array Value} {Z : State} (hw : Hw a0 Z) : (Jvm.Cond.methodLink "java/util/ImmutableCollections" (34 : Nat) ({ cls := "java/util/List", name := "of", desc := "([Ljava/lang/Object;)Ljava/util/List;" } : Jvm.MethodName)).before a0 Z = true := hw _ (List.mem_of_getElem? (i := 183) rfl)
theorem w184 {a0 : Array Value} {Z : State} (hw : Hw a0 Z) : (Jvm.Cond.static ({ cls := "java/util/List", name := "of", desc := "([Ljava/lang/Object;)Ljava/util/List;" } : Jvm.MethodName)).before a0 Z = true := hw _ (List.mem_of_getElem? (i := 184) rfl)
theorem w185 {a0 : Array Value} {Z : State} (hw : Hw a0 Z) : (Jvm.Cond.code ({ cls := "java/util/List", name := "of", desc := "([Ljava/lang/Object;)Ljava/util/List;" } : Jvm.MethodName) jdk_40_method_47_code (2 : Nat) (Option.some (Jvm.ClassFile.FieldType.object "java/util/List"))).before a0 Z = true := hw _ (List.mem_of_getElem? (i := 185) rfl)
theorem w186 {a0 : Array Value} {Z : State} (hw : Hw a0 Z) : (Jvm.Cond.classLink "java/util/List" (96 : Nat) "java/util/ImmutableCollections$List12").before a0 Z = true := hw _ (List.mem_of_getElem? (i := 186) rfl)
theorem w187 {a0 : Array Value} {Z : State} (hw : Hw a0 Z) : (Jvm.Cond.instantiable "java/util/ImmutableCollections$List12" (2 : Nat)).before a0 Z = true := hw _ (List.mem_of_getElem? (i := 187) rfl)
theorem w188 {a0 : Array Value} {Z : State} (hw : Hw a0 Z) : (Jvm.Cond.initialized "java/util/ImmutableCollections$List12").before a0 Z = true := hw _ (List.mem_of_getElem? (i := 188) rfl)
theorem w189 {a0 : Array Value} {Z : State} (hw : Hw a0 Z) : (Jvm.Cond.methodLink "java/util/List" (100 : Nat) ({ cls := "java/util/ImmutableCollections$List12", name := "<init>", desc := "(Ljava/lang/Object;Ljava/lang/Object;)V" } : Jvm.MethodName)).before a0 Z = true := hw _ (List.mem_of_getElem? (i := 189) rfl)
theorem w190 {a0 : Array Value} {Z : State} (hw : Hw a0 Z) : (Jvm.Cond.instanceMethod ({ cls := "java/util/ImmutableCollections$List12", name := "<init>", desc := "(Ljava/lang/Object;Ljava/lang/Object;)V" } : Jvm.MethodName)).before a0 Z = true := hw _ (List.mem_of_getElem? (i := 190) rfl)
theorem w192 {a0 : Array Value} {Z : State} (hw : Hw a0 Z) : (Jvm.Cond.code ({ cls := "java/util/ImmutableCollections$List12", name := "<init>", desc := "(Ljava/lang/Object;Ljava/lang/Object;)V" } : Jvm.MethodName) jdk_44_method_2_code (3 : Nat) (Option.none : Option Jvm.ClassFile.FieldType)).before a0 Z = true := hw _ (List.mem_of_getElem? (i := 192) rfl)
theorem w193 {a0 : Array Value} {Z : State} (hw : Hw a0 Z) : (Jvm.Cond.methodLink "java/util/ImmutableCollections$List12" (1 : Nat) ({ cls := "java/util/ImmutableCollections$AbstractImmutableList", name := "<init>", desc := "()V" } : Jvm.MethodName)).before a0 Z = true := hw _ (List.mem_of_getElem? (i := 193) rfl)
theorem w194 {a0 : Array Value} {Z : State} (hw : Hw a0 Z) : (Jvm.Cond.instanceMethod ({ cls := "java/util/ImmutableCollections$AbstractImmutableList", name := "<init>", desc := "()V" } : Jvm.MethodName)).before a0 Z = true := hw _ (List.mem_of_getElem? (i := 194) rfl)
theorem w197 {a0 : Array Value} {Z : State} (hw : Hw a0 Z) : (Jvm.Cond.initialized "java/util/ImmutableCollections$AbstractImmutableList").before a0 Z = true := hw _ (List.mem_of_getElem? (i := 197) rfl)
theorem w198 {a0 : Array Value} {Z : State} (hw : Hw a0 Z) : (Jvm.Cond.code ({ cls := "java/util/ImmutableCollections$AbstractImmutableList", name := "<init>", desc := "()V" } : Jvm.MethodName) jdk_46_method_1_code (1 : Nat) (Option.none : Option Jvm.ClassFile.FieldType)).before a0 Z = true := hw _ (List.mem_of_getElem? (i := 198) rfl)
theorem w199 {a0 : Array Value} {Z : State} (hw : Hw a0 Z) : (Jvm.Cond.methodLink "java/util/ImmutableCollections$AbstractImmutableList" (1 : Nat) ({ cls := "java/util/ImmutableCollections$AbstractImmutableCollection", name := "<init>", desc := "()V" } : Jvm.MethodName)).before a0 Z = true := hw _ (List.mem_of_getElem? (i := 199) rfl)
theorem w200 {a0 : Array Value} {Z : State} (hw : Hw a0 Z) : (Jvm.Cond.instanceMethod ({ cls := "java/util/ImmutableCollections$AbstractImmutableCollection", name := "<init>", desc := "()V" } : Jvm.MethodName)).before a0 Z = true := hw _ (List.mem_of_getElem? (i := 200) rfl)
theorem w203 {a0 : Array Value} {Z : State} (hw : Hw a0 Z) : (Jvm.Cond.initialized "java/util/ImmutableCollections$AbstractImmutableCollection").before a0 Z = true := hw _ (List.mem_of_getElem? (i := 203) rfl)
theorem w204 {a0 : Array Value} {Z : State} (hw : Hw a0 Z) : (Jvm.Cond.code ({ cls := "java/util/ImmutableCollections$AbstractImmutableCollection", name := "<init>", desc := "()V" } : Jvm.MethodName) jdk_47_method_1_code (1 : Nat) (Option.none : Option Jvm.ClassFile.FieldType)).before a0 Z = true := hw _ (List.mem_of_getElem? (i := 204) rfl)
theorem w205 {a0 : Array Value} {Z : State} (hw : Hw a0 Z) : (Jvm.Cond.methodLink "java/util/ImmutableCollections$AbstractImmutableCollection" (1 : Nat) ({ cls := "java/util/AbstractCollection", name := "<init>", desc := "()V" } : Jvm.MethodName)).before a0 Z = true := hw _ (List.mem_of_getElem? (i := 205) rfl)
theorem w207 {a0 : Array Value} {Z : State} (hw : Hw a0 Z) : (Jvm.Cond.methodLink "java/util/ImmutableCollections$List12" (7 : Nat) ({ cls := "java/util/Objects", name := "requireNonNull", desc := "(Ljava/lang/Object;)Ljava/lang/Object;" } : Jvm.MethodName)).before a0 Z = true := hw _ (List.mem_of_getElem? (i := 207) rfl)
theorem w208 {a0 : Array Value} {Z : State} (hw : Hw a0 Z) : (Jvm.Cond.static ({ cls := "java/util/Objects", name := "requireNonNull", desc := "(Ljava/lang/Object;)Ljava/lang/Object;" } : Jvm.MethodName)).before a0 Z = true := hw _ (List.mem_of_getElem? (i := 208) rfl)
theorem w209 {a0 : Array Value} {Z : State} (hw : Hw a0 Z) : (Jvm.Cond.initialized "java/util/Objects").before a0 Z = true := hw _ (List.mem_of_getElem? (i := 209) rfl)
theorem w210 {a0 : Array Value} {Z : State} (hw : Hw a0 Z) : (Jvm.Cond.code ({ cls := "java/util/Objects", name := "requireNonNull", desc := "(Ljava/lang/Object;)Ljava/lang/Object;" } : Jvm.MethodName) jdk_31_method_10_code (1 : Nat) (Option.some (Jvm.ClassFile.FieldType.object "java/lang/Object"))).before a0 Z = true := hw _ (List.mem_of_getElem? (i := 210) rfl)
theorem w211 {a0 : Array Value} {Z : State} (hw : Hw a0 Z) : (Jvm.Cond.fieldLink "java/util/ImmutableCollections$List12" (13 : Nat) "java/util/ImmutableCollections$List12" "e0" "Ljava/lang/Object;").before a0 Z = true := hw _ (List.mem_of_getElem? (i := 211) rfl)
theorem w212 {a0 : Array Value} {Z : State} (hw : Hw a0 Z) : (Jvm.Cond.laysFinal "java/util/ImmutableCollections$List12" "java/util/ImmutableCollections$List12" "e0" "Ljava/lang/Object;").before a0 Z = true := hw _ (List.mem_of_getElem? (i := 212) rfl)
theorem w213 {a0 : Array Value} {Z : State} (hw : Hw a0 Z) : (Jvm.Cond.fieldLink "java/util/ImmutableCollections$List12" (24 : Nat) "java/util/ImmutableCollections$List12" "e1" "Ljava/lang/Object;").before a0 Z = true := hw _ (List.mem_of_getElem? (i := 213) rfl)
theorem w214 {a0 : Array Value} {Z : State} (hw : Hw a0 Z) : (Jvm.Cond.laysFinal "java/util/ImmutableCollections$List12" "java/util/ImmutableCollections$List12" "e1" "Ljava/lang/Object;").before a0 Z = true := hw _ (List.mem_of_getElem? (i := 214) rfl)
theorem w215 {a0 : Array Value} {Z : State} (hw : Hw a0 Z) : (Jvm.Cond.fieldLink "com/example/slotwright/slotwright/EnrolmentInstance" (19 : Nat) "com/example/slotwright/slotwright/EnrolmentInstance" "rooms" "Ljava/util/List;").before a0 Z = true := hw _ (List.mem_of_getElem? (i := 215) rfl)
theorem w216 {a0 : Array Value} {Z : State} (hw : Hw a0 Z) : (Jvm.Cond.laysFinal "com/example/slotwright/slotwright/EnrolmentInstance" "com/example/slotwright/slotwright/EnrolmentInstance" "rooms" "Ljava/util/List;").before a0 Z = true := hw _ (List.mem_of_getElem? (i := 216) rfl)
theorem w217 {a0 : Array Value} {Z : State} (hw : Hw a0 Z) : (Jvm.Cond.fieldLink "com/example/slotwright/slotwright/EnrolmentInstance" (23 : Nat) "com/example/slotwright/slotwright/EnrolmentInstance" "eventFeatures" "Ljava/util/List;").before a0 Z = true := hw _ (List.mem_of_getElem? (i := 217) rfl)
theorem w218 {a0 : Array Value} {Z : State} (hw : Hw a0 Z) : (Jvm.Cond.laysFinal "com/example/slotwright/slotwright/EnrolmentInstance" "com/example/slotwright/slotwright/EnrolmentInstance" "eventFeatures" "Ljava/util/List;").before a0 Z = true := hw _ (List.mem_of_getElem? (i := 218) rfl)
theorem w219 {a0 : Array Value} {Z : State} (hw : Hw a0 Z) : (Jvm.Cond.methodLink "java/util/ImmutableCollections" (26 : Nat) ({ cls := "java/util/List", name := "of", desc := "()Ljava/util/List;" } : Jvm.MethodName)).before a0 Z = true := hw _ (List.mem_of_getElem? (i := 219) rfl)
theorem w220 {a0 : Array Value} {Z : State} (hw : Hw a0 Z) : (Jvm.Cond.static ({ cls := "java/util/List", name := "of", desc := "()Ljava/util/List;" } : Jvm.MethodName)).before a0 Z = true := hw _ (List.mem_of_getElem? (i := 220) rfl)
theorem w221 {a0 : Array Value} {Z : State} (hw : Hw a0 Z) : (Jvm.Cond.code ({ cls := "java/util/List", name := "of", desc := "()Ljava/util/List;" } : Jvm.MethodName) jdk_40_method_36_code (0 : Nat) (Option.some (Jvm.ClassFile.FieldType.object "java/util/List"))).before a0 Z = true := hw _ (List.mem_of_getElem? (i := 221) rfl)
theorem w222 {a0 : Array Value} {Z : State} (hw : Hw a0 Z) : (Jvm.Cond.fieldLink "java/util/List" (90 : Nat) "java/util/ImmutableCollections" "EMPTY_LIST" "Ljava/util/ImmutableCollections$ListN;").before a0 Z = true := hw _ (List.mem_of_getElem? (i := 222) rfl)
theorem w223 {a0 : Array Value} {Z : State} (hw : Hw a0 Z) : (Jvm.Cond.fieldLink "com/example/slotwright/slotwright/EnrolmentInstance" (26 : Nat) "com/example/slotwright/slotwright/EnrolmentInstance" "attendance" "Ljava/util/List;").before a0 Z = true := hw _ (List.mem_of_getElem? (i := 223) rfl)
theorem w224 {a0 : Array Value} {Z : State} (hw : Hw a0 Z) : (Jvm.Cond.laysFinal "com/example/slotwright/slotwright/EnrolmentInstance" "com/example/slotwright/slotwright/EnrolmentInstance" "attendance" "Ljava/util/List;").before a0 Z = true := hw _ (List.mem_of_getElem? (i := 224) rfl)
theorem w225 {a0 : Array Value} {Z : State} (hw : Hw a0 Z) : (Jvm.Cond.methodLink "com/example/slotwright/slotwright/EnrolmentInstanceSuitsPinLaw" (37 : Nat) ({ cls := "com/example/slotwright/slotwright/EnrolmentInstance", name := "suits", desc := "(III)Z" } : Jvm.MethodName)).before a0 Z = true := hw _ (List.mem_of_getElem? (i := 225) rfl)
theorem w226 {a0 : Array Value} {Z : State} (hw : Hw a0 Z) : (Jvm.Cond.declares ({ cls := "com/example/slotwright/slotwright/EnrolmentInstance", name := "suits", desc := "(III)Z" } : Jvm.MethodName)).before a0 Z = true := hw _ (List.mem_of_getElem? (i := 226) rfl)
theorem w227 {a0 : Array Value} {Z : State} (hw : Hw a0 Z) : (Jvm.Cond.instanceMethod ({ cls := "com/example/slotwright/slotwright/EnrolmentInstance", name := "suits", desc := "(III)Z" } : Jvm.MethodName)).before a0 Z = true := hw _ (List.mem_of_getElem? (i := 227) rfl)
theorem w228 {a0 : Array Value} {Z : State} (hw : Hw a0 Z) : (Jvm.Cond.selects "com/example/slotwright/slotwright/EnrolmentInstance" ({ cls := "com/example/slotwright/slotwright/EnrolmentInstance", name := "suits", desc := "(III)Z" } : Jvm.MethodName) ({ cls := "com/example/slotwright/slotwright/EnrolmentInstance", name := "suits", desc := "(III)Z" } : Jvm.MethodName)).before a0 Z = true := hw _ (List.mem_of_getElem? (i := 228) rfl)
theorem w229 {a0 : Array Value} {Z : State} (hw : Hw a0 Z) : (Jvm.Cond.code ({ cls := "com/example/slotwright/slotwright/EnrolmentInstance", name := "suits", desc := "(III)Z" } : Jvm.MethodName) prog_9_method_6_code (6 : Nat) (Option.some Jvm.ClassFile.FieldType.boolean)).before a0 Z = true := hw _ (List.mem_of_getElem? (i := 229) rfl)
theorem w230 {a0 : Array Value} {Z : State} (hw : Hw a0 Z) : (Jvm.Cond.methodLink "com/example/slotwright/slotwright/EnrolmentInstance" (45 : Nat) ({ cls := "java/util/List", name := "get", desc := "(I)Ljava/lang/Object;" } : Jvm.MethodName)).before a0 Z = true := hw _ (List.mem_of_getElem? (i := 230) rfl)
theorem w231 {a0 : Array Value} {Z : State} (hw : Hw a0 Z) : (Jvm.Cond.declares ({ cls := "java/util/List", name := "get", desc := "(I)Ljava/lang/Object;" } : Jvm.MethodName)).before a0 Z = true := hw _ (List.mem_of_getElem? (i := 231) rfl)
theorem w232 {a0 : Array Value} {Z : State} (hw : Hw a0 Z) : (Jvm.Cond.interfaceMethod "java/util/List" "java/util/List" "get" "(I)Ljava/lang/Object;").before a0 Z = true := hw _ (List.mem_of_getElem? (i := 232) rfl)
theorem w233 {a0 : Array Value} {Z : State} (hw : Hw a0 Z) : (Jvm.Cond.selects "java/util/ImmutableCollections$List12" ({ cls := "java/util/List", name := "get", desc := "(I)Ljava/lang/Object;" } : Jvm.MethodName) ({ cls := "java/util/ImmutableCollections$List12", name := "get", desc := "(I)Ljava/lang/Object;" } : Jvm.MethodName)).before a0 Z = true := hw _ (List.mem_of_getElem? (i := 233) rfl)
theorem w234 {a0 : Array Value} {Z : State} (hw : Hw a0 Z) : (Jvm.Cond.instanceMethod ({ cls := "java/util/ImmutableCollections$List12", name := "get", desc := "(I)Ljava/lang/Object;" } : Jvm.MethodName)).before a0 Z = true := hw _ (List.mem_of_getElem? (i := 234) rfl)
theorem w235 {a0 : Array Value} {Z : State} (hw : Hw a0 Z) : (Jvm.Cond.publicMethod ({ cls := "java/util/ImmutableCollections$List12", name := "get", desc := "(I)Ljava/lang/Object;" } : Jvm.MethodName)).before a0 Z = true := hw _ (List.mem_of_getElem? (i := 235) rfl)
theorem w236 {a0 : Array Value} {Z : State} (hw : Hw a0 Z) : (Jvm.Cond.unhidden "java/util/ImmutableCollections$List12" "get" "(I)Ljava/lang/Object;").before a0 Z = true := hw _ (List.mem_of_getElem? (i := 236) rfl)
theorem w237 {a0 : Array Value} {Z : State} (hw : Hw a0 Z) : (Jvm.Cond.castable "java/util/ImmutableCollections$List12" "java/util/List").before a0 Z = true := hw _ (List.mem_of_getElem? (i := 237) rfl)
theorem w238 {a0 : Array Value} {Z : State} (hw : Hw a0 Z) : (Jvm.Cond.code ({ cls := "java/util/ImmutableCollections$List12", name := "get", desc := "(I)Ljava/lang/Object;" } : Jvm.MethodName) jdk_44_method_5_code (2 : Nat) (Option.some (Jvm.ClassFile.FieldType.object "java/lang/Object"))).before a0 Z = true := hw _ (List.mem_of_getElem? (i := 238) rfl)
theorem w239 {a0 : Array Value} {Z : State} (hw : Hw a0 Z) : (Jvm.Cond.classLink "com/example/slotwright/slotwright/EnrolmentInstance" (49 : Nat) "com/example/slotwright/slotwright/EnrolmentInstance$Room").before a0 Z = true := hw _ (List.mem_of_getElem? (i := 239) rfl)
theorem w241 {a0 : Array Value} {Z : State} (hw : Hw a0 Z) : (Jvm.Cond.classLink "com/example/slotwright/slotwright/EnrolmentInstance" (51 : Nat) "java/util/BitSet").before a0 Z = true := hw _ (List.mem_of_getElem? (i := 241) rfl)
theorem w242 {a0 : Array Value} {Z : State} (hw : Hw a0 Z) : (Jvm.Cond.methodLink "com/example/slotwright/slotwright/EnrolmentInstance" (53 : Nat) ({ cls := "java/util/BitSet", name := "<init>", desc := "()V" } : Jvm.MethodName)).before a0 Z = true := hw _ (List.mem_of_getElem? (i := 242) rfl)
theorem w243 {a0 : Array Value} {Z : State} (hw : Hw a0 Z) : (Jvm.Cond.methodLink "com/example/slotwright/slotwright/EnrolmentInstance" (54 : Nat) ({ cls := "java/util/List", name := "isEmpty", desc := "()Z" } : Jvm.MethodName)).before a0 Z = true := hw _ (List.mem_of_getElem? (i := 243) rfl)
theorem w244 {a0 : Array Value} {Z : State} (hw : Hw a0 Z) : (Jvm.Cond.declares ({ cls := "java/util/List", name := "isEmpty", desc := "()Z" } : Jvm.MethodName)).before a0 Z = true := hw _ (List.mem_of_getElem? (i := 244) rfl)
theorem w245 {a0 : Array Value} {Z : State} (hw : Hw a0 Z) : (Jvm.Cond.interfaceMethod "java/util/List" "java/util/List" "isEmpty" "()Z").before a0 Z = true := hw _ (List.mem_of_getElem? (i := 245) rfl)
theorem w246 {a0 : Array Value} {Z : State} (hw : Hw a0 Z) : (Jvm.Cond.selects "java/util/ImmutableCollections$List12" ({ cls := "java/util/List", name := "isEmpty", desc := "()Z" } : Jvm.MethodName) ({ cls := "java/util/ImmutableCollections$List12", name := "isEmpty", desc := "()Z" } : Jvm.MethodName)).before a0 Z = true := hw _ (List.mem_of_getElem? (i := 246) rfl)
theorem w247 {a0 : Array Value} {Z : State} (hw : Hw a0 Z) : (Jvm.Cond.instanceMethod ({ cls := "java/util/ImmutableCollections$List12", name := "isEmpty", desc := "()Z" } : Jvm.MethodName)).before a0 Z = true := hw _ (List.mem_of_getElem? (i := 247) rfl)
theorem w248 {a0 : Array Value} {Z : State} (hw : Hw a0 Z) : (Jvm.Cond.publicMethod ({ cls := "java/util/ImmutableCollections$List12", name := "isEmpty", desc := "()Z" } : Jvm.MethodName)).before a0 Z = true := hw _ (List.mem_of_getElem? (i := 248) rfl)
theorem w249 {a0 : Array Value} {Z : State} (hw : Hw a0 Z) : (Jvm.Cond.unhidden "java/util/ImmutableCollections$List12" "isEmpty" "()Z").before a0 Z = true := hw _ (List.mem_of_getElem? (i := 249) rfl)
theorem w250 {a0 : Array Value} {Z : State} (hw : Hw a0 Z) : (Jvm.Cond.code ({ cls := "java/util/ImmutableCollections$List12", name := "isEmpty", desc := "()Z" } : Jvm.MethodName) jdk_44_method_4_code (1 : Nat) (Option.some Jvm.ClassFile.FieldType.boolean)).before a0 Z = true := hw _ (List.mem_of_getElem? (i := 250) rfl)
theorem w252 {a0 : Array Value} {Z : State} (hw : Hw a0 Z) : (Jvm.Cond.methodLink "com/example/slotwright/slotwright/EnrolmentInstance" (57 : Nat) ({ cls := "java/util/BitSet", name := "or", desc := "(Ljava/util/BitSet;)V" } : Jvm.MethodName)).before a0 Z = true := hw _ (List.mem_of_getElem? (i := 252) rfl)
theorem w253 {a0 : Array Value} {Z : State} (hw : Hw a0 Z) : (Jvm.Cond.declares ({ cls := "java/util/BitSet", name := "or", desc := "(Ljava/util/BitSet;)V" } : Jvm.MethodName)).before a0 Z = true := hw _ (List.mem_of_getElem? (i := 253) rfl)
theorem w254 {a0 : Array Value} {Z : State} (hw : Hw a0 Z) : (Jvm.Cond.instanceMethod ({ cls := "java/util/BitSet", name := "or", desc := "(Ljava/util/BitSet;)V" } : Jvm.MethodName)).before a0 Z = true := hw _ (List.mem_of_getElem? (i := 254) rfl)
theorem w255 {a0 : Array Value} {Z : State} (hw : Hw a0 Z) : (Jvm.Cond.selects "java/util/BitSet" ({ cls := "java/util/BitSet", name := "or", desc := "(Ljava/util/BitSet;)V" } : Jvm.MethodName) ({ cls := "java/util/BitSet", name := "or", desc := "(Ljava/util/BitSet;)V" } : Jvm.MethodName)).before a0 Z = true := hw _ (List.mem_of_getElem? (i := 255) rfl)
theorem w256 {a0 : Array Value} {Z : State} (hw : Hw a0 Z) : (Jvm.Cond.code ({ cls := "java/util/BitSet", name := "or", desc := "(Ljava/util/BitSet;)V" } : Jvm.MethodName) jdk_92_method_37_code (4 : Nat) (Option.none : Option Jvm.ClassFile.FieldType)).before a0 Z = true := hw _ (List.mem_of_getElem? (i := 256) rfl)
theorem w257 {a0 : Array Value} {Z : State} (hw : Hw a0 Z) : (Jvm.Cond.methodLink "java/util/BitSet" (193 : Nat) ({ cls := "java/lang/Math", name := "min", desc := "(II)I" } : Jvm.MethodName)).before a0 Z = true := hw _ (List.mem_of_getElem? (i := 257) rfl)
theorem w258 {a0 : Array Value} {Z : State} (hw : Hw a0 Z) : (Jvm.Cond.methodLink "com/example/slotwright/slotwright/EnrolmentInstance" (61 : Nat) ({ cls := "com/example/slotwright/slotwright/EnrolmentInstance$Room", name := "features", desc := "()Ljava/util/BitSet;" } : Jvm.MethodName)).before a0 Z = true := hw _ (List.mem_of_getElem? (i := 258) rfl)
theorem w259 {a0 : Array Value} {Z : State} (hw : Hw a0 Z) : (Jvm.Cond.declares ({ cls := "com/example/slotwright/slotwright/EnrolmentInstance$Room", name := "features", desc := "()Ljava/util/BitSet;" } : Jvm.MethodName)).before a0 Z = true := hw _ (List.mem_of_getElem? (i := 259) rfl)
theorem w260 {a0 : Array Value} {Z : State} (hw : Hw a0 Z) : (Jvm.Cond.instanceMethod ({ cls := "com/example/slotwright/slotwright/EnrolmentInstance$Room", name := "features", desc := "()Ljava/util/BitSet;" } : Jvm.MethodName)).before a0 Z = true := hw _ (List.mem_of_getElem? (i := 260) rfl)
theorem w261 {a0 : Array Value} {Z : State} (hw : Hw a0 Z) : (Jvm.Cond.selects "com/example/slotwright/slotwright/EnrolmentInstance$Room" ({ cls := "com/example/slotwright/slotwright/EnrolmentInstance$Room", name := "features", desc := "()Ljava/util/BitSet;" } : Jvm.MethodName) ({ cls := "com/example/slotwright/slotwright/EnrolmentInstance$Room", name := "features", desc := "()Ljava/util/BitSet;" } : Jvm.MethodName)).before a0 Z = true := hw _ (List.mem_of_getElem? (i := 261) rfl)
theorem w262 {a0 : Array Value} {Z : State} (hw : Hw a0 Z) : (Jvm.Cond.code ({ cls := "com/example/slotwright/slotwright/EnrolmentInstance$Room", name := "features", desc := "()Ljava/util/BitSet;" } : Jvm.MethodName) prog_10_method_6_code (1 : Nat) (Option.some (Jvm.ClassFile.FieldType.object "java/util/BitSet"))).before a0 Z = true := hw _ (List.mem_of_getElem? (i := 262) rfl)
theorem w263 {a0 : Array Value} {Z : State} (hw : Hw a0 Z) : (Jvm.Cond.methodLink "com/example/slotwright/slotwright/EnrolmentInstance" (65 : Nat) ({ cls := "java/util/BitSet", name := "andNot", desc := "(Ljava/util/BitSet;)V" } : Jvm.MethodName)).before a0 Z = true := hw _ (List.mem_of_getElem? (i := 263) rfl)
theorem w264 {a0 : Array Value} {Z : State} (hw : Hw a0 Z) : (Jvm.Cond.declares ({ cls := "java/util/BitSet", name := "andNot", desc := "(Ljava/util/BitSet;)V" } : Jvm.MethodName)).before a0 Z = true := hw _ (List.mem_of_getElem? (i := 264) rfl)
theorem w265 {a0 : Array Value} {Z : State} (hw : Hw a0 Z) : (Jvm.Cond.instanceMethod ({ cls := "java/util/BitSet", name := "andNot", desc := "(Ljava/util/BitSet;)V" } : Jvm.MethodName)).before a0 Z = true := hw _ (List.mem_of_getElem? (i := 265) rfl)
theorem w266 {a0 : Array Value} {Z : State} (hw : Hw a0 Z) : (Jvm.Cond.selects "java/util/BitSet" ({ cls := "java/util/BitSet", name := "andNot", desc := "(Ljava/util/BitSet;)V" } : Jvm.MethodName) ({ cls := "java/util/BitSet", name := "andNot", desc := "(Ljava/util/BitSet;)V" } : Jvm.MethodName)).before a0 Z = true := hw _ (List.mem_of_getElem? (i := 266) rfl)
theorem w267 {a0 : Array Value} {Z : State} (hw : Hw a0 Z) : (Jvm.Cond.code ({ cls := "java/util/BitSet", name := "andNot", desc := "(Ljava/util/BitSet;)V" } : Jvm.MethodName) jdk_92_method_39_code (3 : Nat) (Option.none : Option Jvm.ClassFile.FieldType)).before a0 Z = true := hw _ (List.mem_of_getElem? (i := 267) rfl)
theorem w268 {a0 : Array Value} {Z : State} (hw : Hw a0 Z) : (Jvm.Cond.methodLink "java/util/BitSet" (158 : Nat) ({ cls := "java/util/BitSet", name := "recalculateWordsInUse", desc := "()V" } : Jvm.MethodName)).before a0 Z = true := hw _ (List.mem_of_getElem? (i := 268) rfl)
theorem w269 {a0 : Array Value} {Z : State} (hw : Hw a0 Z) : (Jvm.Cond.instanceMethod ({ cls := "java/util/BitSet", name := "recalculateWordsInUse", desc := "()V" } : Jvm.MethodName)).before a0 Z = true := hw _ (List.mem_of_getElem? (i := 269) rfl)
theorem w270 {a0 : Array Value} {Z : State} (hw : Hw a0 Z) : (Jvm.Cond.privateMethod ({ cls := "java/util/BitSet", name := "recalculateWordsInUse", desc := "()V" } : Jvm.MethodName)).before a0 Z = true := hw _ (List.mem_of_getElem? (i := 270) rfl)
theorem w271 {a0 : Array Value} {Z : State} (hw : Hw a0 Z) : (Jvm.Cond.selects "java/util/BitSet" ({ cls := "java/util/BitSet", name := "recalculateWordsInUse", desc := "()V" } : Jvm.MethodName) ({ cls := "java/util/BitSet", name := "recalculateWordsInUse", desc := "()V" } : Jvm.MethodName)).before a0 Z = true := hw _ (List.mem_of_getElem? (i := 271) rfl)
theorem w272 {a0 : Array Value} {Z : State} (hw : Hw a0 Z) : (Jvm.Cond.code ({ cls := "java/util/BitSet", name := "recalculateWordsInUse", desc := "()V" } : Jvm.MethodName) jdk_92_method_3_code (2 : Nat) (Option.none : Option Jvm.ClassFile.FieldType)).before a0 Z = true := hw _ (List.mem_of_getElem? (i := 272) rfl)
theorem w273 {a0 : Array Value} {Z : State} (hw : Hw a0 Z) : (Jvm.Cond.methodLink "com/example/slotwright/slotwright/EnrolmentInstance" (68 : Nat) ({ cls := "com/example/slotwright/slotwright/EnrolmentInstance$Room", name := "size", desc := "()I" } : Jvm.MethodName)).before a0 Z = true := hw _ (List.mem_of_getElem? (i := 273) rfl)
theorem w274 {a0 : Array Value} {Z : State} (hw : Hw a0 Z) : (Jvm.Cond.declares ({ cls := "com/example/slotwright/slotwright/EnrolmentInstance$Room", name := "size", desc := "()I" } : Jvm.MethodName)).before a0 Z = true := hw _ (List.mem_of_getElem? (i := 274) rfl)
theorem w275 {a0 : Array Value} {Z : State} (hw : Hw a0 Z) : (Jvm.Cond.instanceMethod ({ cls := "com/example/slotwright/slotwright/EnrolmentInstance$Room", name := "size", desc := "()I" } : Jvm.MethodName)).before a0 Z = true := hw _ (List.mem_of_getElem? (i := 275) rfl)
theorem w276 {a0 : Array Value} {Z : State} (hw : Hw a0 Z) : (Jvm.Cond.selects "com/example/slotwright/slotwright/EnrolmentInstance$Room" ({ cls := "com/example/slotwright/slotwright/EnrolmentInstance$Room", name := "size", desc := "()I" } : Jvm.MethodName) ({ cls := "com/example/slotwright/slotwright/EnrolmentInstance$Room", name := "size", desc := "()I" } : Jvm.MethodName)).before a0 Z = true := hw _ (List.mem_of_getElem? (i := 276) rfl)
theorem w277 {a0 : Array Value} {Z : State} (hw : Hw a0 Z) : (Jvm.Cond.code ({ cls := "com/example/slotwright/slotwright/EnrolmentInstance$Room", name := "size", desc := "()I" } : Jvm.MethodName) prog_10_method_5_code (1 : Nat) (Option.some Jvm.ClassFile.FieldType.int)).before a0 Z = true := hw _ (List.mem_of_getElem? (i := 277) rfl)
theorem w278 {a0 : Array Value} {Z : State} (hw : Hw a0 Z) : (Jvm.Cond.methodLink "java/util/BitSet" (133 : Nat) ({ cls := "java/lang/Math", name := "max", desc := "(II)I" } : Jvm.MethodName)).before a0 Z = true := hw _ (List.mem_of_getElem? (i := 278) rfl)
theorem w279 {a0 : Array Value} {Z : State} (hw : Hw a0 Z) : (Jvm.Cond.methodLink "java/util/BitSet" (59 : Nat) ({ cls := "java/util/Arrays", name := "copyOf", desc := "([JI)[J" } : Jvm.MethodName)).before a0 Z = true := hw _ (List.mem_of_getElem? (i := 279) rfl)
theorem w280 {a0 : Array Value} {Z : State} (hw : Hw a0 Z) : (Jvm.Cond.static ({ cls := "java/util/Arrays", name := "copyOf", desc := "([JI)[J" } : Jvm.MethodName)).before a0 Z = true := hw _ (List.mem_of_getElem? (i := 280) rfl)
theorem w281 {a0 : Array Value} {Z : State} (hw : Hw a0 Z) : (Jvm.Cond.code ({ cls := "java/util/Arrays", name := "copyOf", desc := "([JI)[J" } : Jvm.MethodName) jdk_65_method_124_code (3 : Nat) (Option.some (Jvm.ClassFile.FieldType.array Jvm.ClassFile.FieldType.long))).before a0 Z = true := hw _ (List.mem_of_getElem? (i := 281) rfl)
theorem w282 {a0 : Array Value} {Z : State} (hw : Hw a0 Z) : (Jvm.Cond.methodLink "com/example/slotwright/slotwright/EnrolmentInstance" (72 : Nat) ({ cls := "java/util/BitSet", name := "isEmpty", desc := "()Z" } : Jvm.MethodName)).before a0 Z = true := hw _ (List.mem_of_getElem? (i := 282) rfl)
theorem w283 {a0 : Array Value} {Z : State} (hw : Hw a0 Z) : (Jvm.Cond.declares ({ cls := "java/util/BitSet", name := "isEmpty", desc := "()Z" } : Jvm.MethodName)).before a0 Z = true := hw _ (List.mem_of_getElem? (i := 283) rfl)
theorem w284 {a0 : Array Value} {Z : State} (hw : Hw a0 Z) : (Jvm.Cond.instanceMethod ({ cls := "java/util/BitSet", name := "isEmpty", desc := "()Z" } : Jvm.MethodName)).before a0 Z = true := hw _ (List.mem_of_getElem? (i := 284) rfl)
theorem w285 {a0 : Array Value} {Z : State} (hw : Hw a0 Z) : (Jvm.Cond.selects "java/util/BitSet" ({ cls := "java/util/BitSet", name := "isEmpty", desc := "()Z" } : Jvm.MethodName) ({ cls := "java/util/BitSet", name := "isEmpty", desc := "()Z" } : Jvm.MethodName)).before a0 Z = true := hw _ (List.mem_of_getElem? (i := 285) rfl)
theorem w286 {a0 : Array Value} {Z : State} (hw : Hw a0 Z) : (Jvm.Cond.code ({ cls := "java/util/BitSet", name := "isEmpty", desc := "()Z" } : Jvm.MethodName) jdk_92_method_33_code (1 : Nat) (Option.some Jvm.ClassFile.FieldType.boolean)).before a0 Z = true := hw _ (List.mem_of_getElem? (i := 286) rfl)
theorem w287 {a0 : Array Value} {Z : State} (hw : Hw a0 Z) : (Jvm.Cond.fieldLinkNest "java/util/ImmutableCollections$List12" (19 : Nat) "java/util/ImmutableCollections" "EMPTY" "Ljava/lang/Object;" "java/util/ImmutableCollections").before a0 Z = true := hw _ (List.mem_of_getElem? (i := 287) rfl)
theorem w288 {a0 : Array Value} {Z : State} (hw : Hw a0 Z) : (Jvm.Cond.selects "java/util/ImmutableCollections$ListN" ({ cls := "java/util/List", name := "isEmpty", desc := "()Z" } : Jvm.MethodName) ({ cls := "java/util/ImmutableCollections$ListN", name := "isEmpty", desc := "()Z" } : Jvm.MethodName)).before a0 Z = true := hw _ (List.mem_of_getElem? (i := 288) rfl)
theorem w289 {a0 : Array Value} {Z : State} (hw : Hw a0 Z) : (Jvm.Cond.instanceMethod ({ cls := "java/util/ImmutableCollections$ListN", name := "isEmpty", desc := "()Z" } : Jvm.MethodName)).before a0 Z = true := hw _ (List.mem_of_getElem? (i := 289) rfl)
theorem w290 {a0 : Array Value} {Z : State} (hw : Hw a0 Z) : (Jvm.Cond.publicMethod ({ cls := "java/util/ImmutableCollections$ListN", name := "isEmpty", desc := "()Z" } : Jvm.MethodName)).before a0 Z = true := hw _ (List.mem_of_getElem? (i := 290) rfl)
theorem w291 {a0 : Array Value} {Z : State} (hw : Hw a0 Z) : (Jvm.Cond.unhidden "java/util/ImmutableCollections$ListN" "isEmpty" "()Z").before a0 Z = true := hw _ (List.mem_of_getElem? (i := 291) rfl)
theorem w292 {a0 : Array Value} {Z : State} (hw : Hw a0 Z) : (Jvm.Cond.castable "java/util/ImmutableCollections$ListN" "java/util/List").before a0 Z = true := hw _ (List.mem_of_getElem? (i := 292) rfl)
theorem w293 {a0 : Array Value} {Z : State} (hw : Hw a0 Z) : (Jvm.Cond.initialized "java/util/ImmutableCollections$ListN").before a0 Z = true := hw _ (List.mem_of_getElem? (i := 293) rfl)
theorem w294 {a0 : Array Value} {Z : State} (hw : Hw a0 Z) : (Jvm.Cond.code ({ cls := "java/util/ImmutableCollections$ListN", name := "isEmpty", desc := "()Z" } : Jvm.MethodName) jdk_45_method_2_code (1 : Nat) (Option.some Jvm.ClassFile.FieldType.boolean)).before a0 Z = true := hw _ (List.mem_of_getElem? (i := 294) rfl)
theorem w295 {a0 : Array Value} {Z : State} (hw : Hw a0 Z) : (Jvm.Cond.fieldLink "java/util/ImmutableCollections$ListN" (7 : Nat) "java/util/ImmutableCollections$ListN" "elements" "[Ljava/lang/Object;").before a0 Z = true := hw _ (List.mem_of_getElem? (i := 295) rfl)
theorem w297 {a0 : Array Value} {Z : State} (hw : Hw a0 Z) : (Jvm.Cond.methodLink "java/util/BitSet" (199 : Nat) ({ cls := "java/lang/System", name := "arraycopy", desc := "(Ljava/lang/Object;ILjava/lang/Object;II)V" } : Jvm.MethodName)).before a0 Z = true := hw _ (List.mem_of_getElem? (i := 297) rfl)
theorem w298 {a0 : Array Value} {Z : State} (hw : Hw a0 Z) : (Jvm.Cond.constantLong "java/util/BitSet" (165 : Nat) (-1 : Int64)).before a0 Z = true := hw _ (List.mem_of_getElem? (i := 298) rfl)
theorem pd0 : parseMethodDescriptor "()V" = some ⟨[], none⟩ := by decide +kernel
theorem pd1 : parseMethodDescriptor "(I)I" = some ⟨[.int], some .int⟩ := by decide +kernel
theorem pd2 : parseMethodDescriptor "(I)V" = some ⟨[.int], none⟩ := by decide +kernel
theorem pd3 : parseMethodDescriptor "(II)I" = some ⟨[.int, .int], some .int⟩ := by decide +kernel
theorem pd4 : parseMethodDescriptor "([JI)[J" = some ⟨[(.array .long), .int], some (.array .long)⟩ := by decide +kernel
theorem pd5 : parseMethodDescriptor "(I)[Ljava/lang/Object;" = some ⟨[.int], some (.array (.object "java/lang/Object"))⟩ := by decide +kernel
theorem pd6 : parseMethodDescriptor "()[Ljava/lang/Object;" = some ⟨[], some (.array (.object "java/lang/Object"))⟩ := by decide +kernel
theorem pd7 : parseMethodDescriptor "(Ljava/lang/Object;[Ljava/lang/Object;I)V" = some ⟨[(.object "java/lang/Object"), (.array (.object "java/lang/Object")), .int], none⟩ := by decide +kernel
theorem pd8 : parseMethodDescriptor "(Ljava/lang/Object;)Ljava/lang/Object;" = some ⟨[(.object "java/lang/Object")], some (.object "java/lang/Object")⟩ := by decide +kernel
theorem pd9 : parseMethodDescriptor "([Ljava/lang/Object;ILjava/lang/Class;)[Ljava/lang/Object;" = some ⟨[(.array (.object "java/lang/Object")), .int, (.object "java/lang/Class")], some (.array (.object "java/lang/Object"))⟩ := by decide +kernel
theorem pd10 : parseMethodDescriptor "([Ljava/lang/Object;I)[Ljava/lang/Object;" = some ⟨[(.array (.object "java/lang/Object")), .int], some (.array (.object "java/lang/Object"))⟩ := by decide +kernel
theorem pd11 : parseMethodDescriptor "(Ljava/lang/Object;Ljava/lang/Object;)V" = some ⟨[(.object "java/lang/Object"), (.object "java/lang/Object")], none⟩ := by decide +kernel
theorem pd12 : parseMethodDescriptor "()Z" = some ⟨[], some .boolean⟩ := by decide +kernel
theorem pd13 : parseMethodDescriptor "([Ljava/lang/Object;)Ljava/util/List;" = some ⟨[(.array (.object "java/lang/Object"))], some (.object "java/util/List")⟩ := by decide +kernel
theorem pd14 : parseMethodDescriptor "()Ljava/util/List;" = some ⟨[], some (.object "java/util/List")⟩ := by decide +kernel
theorem pd15 : parseMethodDescriptor "(Ljava/util/Collection;)Ljava/util/List;" = some ⟨[(.object "java/util/Collection")], some (.object "java/util/List")⟩ := by decide +kernel
theorem pd16 : parseMethodDescriptor "(I)Ljava/lang/Object;" = some ⟨[.int], some (.object "java/lang/Object")⟩ := by decide +kernel
theorem pd17 : parseMethodDescriptor "(Ljava/util/BitSet;)V" = some ⟨[(.object "java/util/BitSet")], none⟩ := by decide +kernel
theorem pd18 : parseMethodDescriptor "()Ljava/util/BitSet;" = some ⟨[], some (.object "java/util/BitSet")⟩ := by decide +kernel
theorem pd19 : parseMethodDescriptor "()I" = some ⟨[], some .int⟩ := by decide +kernel
theorem pd20 : parseMethodDescriptor "(I)Ljava/util/BitSet;" = some ⟨[.int], some (.object "java/util/BitSet")⟩ := by decide +kernel
theorem pd21 : parseMethodDescriptor "(ILjava/util/BitSet;)V" = some ⟨[.int, (.object "java/util/BitSet")], none⟩ := by decide +kernel
theorem pd22 : parseMethodDescriptor "(Ljava/lang/Object;)Z" = some ⟨[(.object "java/lang/Object")], some .boolean⟩ := by decide +kernel
theorem pd23 : parseMethodDescriptor "(ILjava/util/List;Ljava/util/List;Ljava/util/List;)V" = some ⟨[.int, (.object "java/util/List"), (.object "java/util/List"), (.object "java/util/List")], none⟩ := by decide +kernel
theorem pd24 : parseMethodDescriptor "(III)Z" = some ⟨[.int, .int, .int], some .boolean⟩ := by decide +kernel
abbrev K0 : Mt := (x, code, maxLocals, ret, room_1)
def K1 : Mt := (⟨"java/util/ArrayList", "<init>", "()V"⟩, jdk_38_method_2_code, 1, none, ⟨3, 0, 0, 36⟩)
def K2 : Mt := (⟨"java/util/AbstractList", "<init>", "()V"⟩, jdk_39_method_1_code, 1, none, ⟨2, 0, 0, 24⟩)
def K3 : Mt := (⟨"java/util/AbstractCollection", "<init>", "()V"⟩, jdk_22_method_1_code, 1, none, ⟨1, 0, 0, 12⟩)
def K5 : Mt := (⟨"com/example/slotwright/slotwright/EnrolmentInstanceSuitsPinLaw", "bits", "(I)Ljava/util/BitSet;"⟩, method_2_code, 2, some (.object "java/util/BitSet"), ⟨5, 6, 16, 112⟩)
def K6 : Mt := (⟨"java/util/BitSet", "<init>", "()V"⟩, jdk_92_method_4_code, 1, none, ⟨2, 1, 1, 30⟩)
def K7 : Mt := (⟨"java/util/BitSet", "initWords", "(I)V"⟩, jdk_92_method_6_code, 2, none, ⟨1, 1, 1, 14⟩)
def K8 : Mt := (⟨"java/util/BitSet", "wordIndex", "(I)I"⟩, jdk_92_method_1_code, 1, some .int, ⟨0, 0, 0, 0⟩)
def K9 : Mt := (⟨"java/util/BitSet", "set", "(I)V"⟩, jdk_92_method_19_code, 3, none, ⟨4, 1, 2, 96⟩)
def K10 : Mt := (⟨"java/util/BitSet", "expandTo", "(I)V"⟩, jdk_92_method_15_code, 3, none, ⟨3, 1, 2, 78⟩)
def K11 : Mt := (⟨"java/util/BitSet", "ensureCapacity", "(I)V"⟩, jdk_92_method_14_code, 3, none, ⟨2, 1, 2, 62⟩)
def K12 : Mt := (⟨"java/util/BitSet", "checkInvariants", "()V"⟩, jdk_92_method_2_code, 1, none, ⟨0, 0, 0, 0⟩)
def K13 : Mt := (⟨"com/example/slotwright/slotwright/EnrolmentInstance$Room", "<init>", "(ILjava/util/BitSet;)V"⟩, prog_10_method_1_code, 3, none, ⟨2, 0, 0, 26⟩)
def K14 : Mt := (⟨"java/lang/Record", "<init>", "()V"⟩, jdk_30_method_1_code, 1, none, ⟨1, 0, 0, 12⟩)
def K15 : Mt := (⟨"java/util/ArrayList", "add", "(Ljava/lang/Object;)Z"⟩, jdk_38_method_25_code, 2, some .boolean, ⟨4, 1, 10, 62⟩)
def K16 : Mt := (⟨"java/util/ArrayList", "add", "(Ljava/lang/Object;[Ljava/lang/Object;I)V"⟩, jdk_38_method_24_code, 4, none, ⟨3, 1, 10, 44⟩)
def K17 : Mt := (⟨"java/util/ArrayList", "grow", "()[Ljava/lang/Object;"⟩, jdk_38_method_7_code, 1, some (.array (.object "java/lang/Object")), ⟨2, 1, 10, 30⟩)
def K18 : Mt := (⟨"java/util/ArrayList", "grow", "(I)[Ljava/lang/Object;"⟩, jdk_38_method_6_code, 4, some (.array (.object "java/lang/Object")), ⟨1, 1, 10, 14⟩)
def K19 : Mt := (⟨"java/lang/Math", "max", "(II)I"⟩, jdk_29_method_65_code, 2, some .int, ⟨0, 0, 0, 0⟩)
def K20 : Mt := (⟨"com/example/slotwright/slotwright/EnrolmentInstance", "<init>", "(ILjava/util/List;Ljava/util/List;Ljava/util/List;)V"⟩, prog_9_method_1_code, 5, none, ⟨8, 6, 12, 122⟩)
def K21 : Mt := (⟨"java/util/List", "copyOf", "(Ljava/util/Collection;)Ljava/util/List;"⟩, jdk_40_method_48_code, 1, some (.object "java/util/List"), ⟨7, 2, 4, 106⟩)
def K22 : Mt := (⟨"java/util/ImmutableCollections", "listCopy", "(Ljava/util/Collection;)Ljava/util/List;"⟩, jdk_56_method_3_code, 2, some (.object "java/util/List"), ⟨6, 2, 4, 92⟩)
def K23 : Mt := (⟨"java/util/ArrayList", "isEmpty", "()Z"⟩, jdk_38_method_9_code, 1, some .boolean, ⟨0, 0, 0, 0⟩)
def K24 : Mt := (⟨"java/util/ArrayList", "toArray", "()[Ljava/lang/Object;"⟩, jdk_38_method_16_code, 1, some (.array (.object "java/lang/Object")), ⟨3, 1, 2, 78⟩)
def K25 : Mt := (⟨"java/util/Arrays", "copyOf", "([Ljava/lang/Object;I)[Ljava/lang/Object;"⟩, jdk_65_method_119_code, 2, some (.array (.object "java/lang/Object")), ⟨2, 1, 2, 64⟩)
def K26 : Mt := (⟨"java/util/Arrays", "copyOf", "([Ljava/lang/Object;ILjava/lang/Class;)[Ljava/lang/Object;"⟩, jdk_65_method_120_code, 4, some (.array (.object "java/lang/Object")), ⟨1, 1, 2, 46⟩)
def K27 : Mt := (⟨"java/lang/Math", "min", "(II)I"⟩, jdk_29_method_69_code, 2, some .int, ⟨0, 0, 0, 0⟩)
def K28 : Mt := (⟨"java/util/List", "of", "([Ljava/lang/Object;)Ljava/util/List;"⟩, jdk_40_method_47_code, 2, some (.object "java/util/List"), ⟨5, 1, 2, 68⟩)
def K29 : Mt := (⟨"java/util/ImmutableCollections$List12", "<init>", "(Ljava/lang/Object;Ljava/lang/Object;)V"⟩, jdk_44_method_2_code, 3, none, ⟨4, 0, 0, 52⟩)
def K30 : Mt := (⟨"java/util/ImmutableCollections$AbstractImmutableList", "<init>", "()V"⟩, jdk_46_method_1_code, 1, none, ⟨3, 0, 0, 36⟩)
def K31 : Mt := (⟨"java/util/ImmutableCollections$AbstractImmutableCollection", "<init>", "()V"⟩, jdk_47_method_1_code, 1, none, ⟨2, 0, 0, 24⟩)
def K32 : Mt := (⟨"java/util/Objects", "requireNonNull", "(Ljava/lang/Object;)Ljava/lang/Object;"⟩, jdk_31_method_10_code, 1, some (.object "java/lang/Object"), ⟨0, 0, 0, 0⟩)
def K33 : Mt := (⟨"java/util/List", "of", "()Ljava/util/List;"⟩, jdk_40_method_36_code, 0, some (.object "java/util/List"), ⟨0, 0, 0, 0⟩)
def K34 : Mt := (⟨"com/example/slotwright/slotwright/EnrolmentInstance", "suits", "(III)Z"⟩, prog_9_method_6_code, 6, some .boolean, ⟨6, 3, 8, 110⟩)
def K35 : Mt := (⟨"java/util/ImmutableCollections$List12", "get", "(I)Ljava/lang/Object;"⟩, jdk_44_method_5_code, 2, some (.object "java/lang/Object"), ⟨0, 0, 0, 0⟩)
def K36 : Mt := (⟨"java/util/ImmutableCollections$List12", "isEmpty", "()Z"⟩, jdk_44_method_4_code, 1, some .boolean, ⟨0, 0, 0, 0⟩)
def K37 : Mt := (⟨"java/util/BitSet", "or", "(Ljava/util/BitSet;)V"⟩, jdk_92_method_37_code, 4, none, ⟨3, 1, 2, 84⟩)
def K38 : Mt := (⟨"com/example/slotwright/slotwright/EnrolmentInstance$Room", "features", "()Ljava/util/BitSet;"⟩, prog_10_method_6_code, 1, some (.object "java/util/BitSet"), ⟨0, 0, 0, 0⟩)
def K39 : Mt := (⟨"java/util/BitSet", "andNot", "(Ljava/util/BitSet;)V"⟩, jdk_92_method_39_code, 3, none, ⟨1, 0, 0, 16⟩)
def K40 : Mt := (⟨"java/util/BitSet", "recalculateWordsInUse", "()V"⟩, jdk_92_method_3_code, 2, none, ⟨0, 0, 0, 0⟩)
def K41 : Mt := (⟨"com/example/slotwright/slotwright/EnrolmentInstance$Room", "size", "()I"⟩, prog_10_method_5_code, 1, some .int, ⟨0, 0, 0, 0⟩)
def K42 : Mt := (⟨"java/util/Arrays", "copyOf", "([JI)[J"⟩, jdk_65_method_124_code, 3, some (.array .long), ⟨1, 1, 2, 45⟩)
def K43 : Mt := (⟨"java/util/BitSet", "isEmpty", "()Z"⟩, jdk_92_method_33_code, 1, some .boolean, ⟨0, 0, 0, 0⟩)
def K44 : Mt := (⟨"java/util/ImmutableCollections$ListN", "isEmpty", "()Z"⟩, jdk_45_method_2_code, 1, some .boolean, ⟨0, 0, 0, 0⟩)
theorem d0_0 : decode K0.bytes 0 = .ok (.iload_n 3, 1) := at_0
theorem d0_1 : decode K0.bytes 1 = .ok (.bipush 15, 2) := at_1
theorem d0_3 : decode K0.bytes 3 = .ok (.iand, 1) := at_3
theorem d0_4 : decode K0.bytes 4 = .ok (.istore 4, 2) := at_4
theorem d0_6 : decode K0.bytes 6 = .ok (.iload_n 3, 1) := at_6
theorem d0_7 : decode K0.bytes 7 = .ok (.iconst 4, 1) := at_7
theorem d0_8 : decode K0.bytes 8 = .ok (.iushr, 1) := at_8
theorem d0_9 : decode K0.bytes 9 = .ok (.bipush 15, 2) := at_9
theorem d0_11 : decode K0.bytes 11 = .ok (.iand, 1) := at_11
theorem d0_12 : decode K0.bytes 12 = .ok (.istore 5, 2) := at_12
theorem d0_14 : decode K0.bytes 14 = .ok (.iload_n 3, 1) := at_14
theorem d0_15 : decode K0.bytes 15 = .ok (.bipush 8, 2) := at_15
theorem d0_17 : decode K0.bytes 17 = .ok (.iushr, 1) := at_17
theorem d0_18 : decode K0.bytes 18 = .ok (.bipush 15, 2) := at_18
theorem d0_20 : decode K0.bytes 20 = .ok (.iand, 1) := at_20
theorem d0_21 : decode K0.bytes 21 = .ok (.istore 6, 2) := at_21
theorem d0_23 : decode K0.bytes 23 = .ok (.iload_n 3, 1) := at_23
theorem d0_24 : decode K0.bytes 24 = .ok (.bipush 12, 2) := at_24
theorem d0_26 : decode K0.bytes 26 = .ok (.iushr, 1) := at_26
theorem d0_27 : decode K0.bytes 27 = .ok (.bipush 15, 2) := at_27
theorem d0_29 : decode K0.bytes 29 = .ok (.iand, 1) := at_29
theorem d0_30 : decode K0.bytes 30 = .ok (.istore 7, 2) := at_30
theorem d0_32 : decode K0.bytes 32 = .ok (.iload_n 3, 1) := at_32
theorem d0_33 : decode K0.bytes 33 = .ok (.bipush 16, 2) := at_33
theorem d0_35 : decode K0.bytes 35 = .ok (.iushr, 1) := at_35
theorem d0_36 : decode K0.bytes 36 = .ok (.iconst 1, 1) := at_36
theorem d0_37 : decode K0.bytes 37 = .ok (.iand, 1) := at_37
theorem d0_38 : decode K0.bytes 38 = .ok (.ifCond .eq 7, 3) := at_38
theorem d0_41 : decode K0.bytes 41 = .ok (.iconst 1, 1) := at_41
theorem d0_42 : decode K0.bytes 42 = .ok (.goto 4, 3) := at_42
theorem d0_45 : decode K0.bytes 45 = .ok (.iconst 0, 1) := at_45
theorem d0_46 : decode K0.bytes 46 = .ok (.istore 8, 2) := at_46
theorem d0_48 : decode K0.bytes 48 = .ok (.iload_n 3, 1) := at_48
theorem d0_49 : decode K0.bytes 49 = .ok (.bipush 17, 2) := at_49
theorem d0_51 : decode K0.bytes 51 = .ok (.iushr, 1) := at_51
theorem d0_52 : decode K0.bytes 52 = .ok (.iconst 1, 1) := at_52
theorem d0_53 : decode K0.bytes 53 = .ok (.iand, 1) := at_53
theorem d0_54 : decode K0.bytes 54 = .ok (.istore 9, 2) := at_54
theorem d0_56 : decode K0.bytes 56 = .ok (.iload_n 3, 1) := at_56
theorem d0_57 : decode K0.bytes 57 = .ok (.bipush 18, 2) := at_57
theorem d0_59 : decode K0.bytes 59 = .ok (.iushr, 1) := at_59
theorem d0_60 : decode K0.bytes 60 = .ok (.iconst 1, 1) := at_60
theorem d0_61 : decode K0.bytes 61 = .ok (.iand, 1) := at_61
theorem d0_62 : decode K0.bytes 62 = .ok (.istore 10, 2) := at_62
theorem d0_64 : decode K0.bytes 64 = .ok (.new 14, 3) := at_64
theorem d0_67 : decode K0.bytes 67 = .ok (.dup, 1) := at_67
theorem d0_68 : decode K0.bytes 68 = .ok (.invokespecial 16, 3) := at_68
theorem d0_71 : decode K0.bytes 71 = .ok (.astore 11, 2) := at_71
theorem d0_73 : decode K0.bytes 73 = .ok (.aload 11, 2) := at_73
theorem d0_75 : decode K0.bytes 75 = .ok (.new 17, 3) := at_75
theorem d0_78 : decode K0.bytes 78 = .ok (.dup, 1) := at_78
theorem d0_79 : decode K0.bytes 79 = .ok (.iload_n 0, 1) := at_79
theorem d0_80 : decode K0.bytes 80 = .ok (.iload 4, 2) := at_80
theorem d0_82 : decode K0.bytes 82 = .ok (.invokestatic 19, 3) := at_82
theorem d0_85 : decode K0.bytes 85 = .ok (.invokespecial 25, 3) := at_85
theorem d0_88 : decode K0.bytes 88 = .ok (.invokevirtual 28, 3) := at_88
theorem d0_91 : decode K0.bytes 91 = .ok (.pop, 1) := at_91
theorem d0_92 : decode K0.bytes 92 = .ok (.aload 11, 2) := at_92
theorem d0_94 : decode K0.bytes 94 = .ok (.new 17, 3) := at_94
theorem d0_97 : decode K0.bytes 97 = .ok (.dup, 1) := at_97
theorem d0_98 : decode K0.bytes 98 = .ok (.iload_n 1, 1) := at_98
theorem d0_99 : decode K0.bytes 99 = .ok (.iload 5, 2) := at_99
theorem d0_101 : decode K0.bytes 101 = .ok (.invokestatic 19, 3) := at_101
theorem d0_104 : decode K0.bytes 104 = .ok (.invokespecial 25, 3) := at_104
theorem d0_107 : decode K0.bytes 107 = .ok (.invokevirtual 28, 3) := at_107
theorem d0_110 : decode K0.bytes 110 = .ok (.pop, 1) := at_110
theorem d0_111 : decode K0.bytes 111 = .ok (.new 14, 3) := at_111
theorem d0_114 : decode K0.bytes 114 = .ok (.dup, 1) := at_114
theorem d0_115 : decode K0.bytes 115 = .ok (.invokespecial 16, 3) := at_115
theorem d0_118 : decode K0.bytes 118 = .ok (.astore 12, 2) := at_118
theorem d0_120 : decode K0.bytes 120 = .ok (.iload 8, 2) := at_120
theorem d0_122 : decode K0.bytes 122 = .ok (.ifCond .ne 25, 3) := at_122
theorem d0_125 : decode K0.bytes 125 = .ok (.aload 12, 2) := at_125
theorem d0_127 : decode K0.bytes 127 = .ok (.iload 6, 2) := at_127
theorem d0_129 : decode K0.bytes 129 = .ok (.invokestatic 19, 3) := at_129
theorem d0_132 : decode K0.bytes 132 = .ok (.invokevirtual 28, 3) := at_132
theorem d0_135 : decode K0.bytes 135 = .ok (.pop, 1) := at_135
theorem d0_136 : decode K0.bytes 136 = .ok (.aload 12, 2) := at_136
theorem d0_138 : decode K0.bytes 138 = .ok (.iload 7, 2) := at_138
theorem d0_140 : decode K0.bytes 140 = .ok (.invokestatic 19, 3) := at_140
theorem d0_143 : decode K0.bytes 143 = .ok (.invokevirtual 28, 3) := at_143
theorem d0_146 : decode K0.bytes 146 = .ok (.pop, 1) := at_146
theorem d0_147 : decode K0.bytes 147 = .ok (.new 14, 3) := at_147
theorem d0_150 : decode K0.bytes 150 = .ok (.dup, 1) := at_150
theorem d0_151 : decode K0.bytes 151 = .ok (.invokespecial 16, 3) := at_151
theorem d0_154 : decode K0.bytes 154 = .ok (.astore 13, 2) := at_154
theorem d0_156 : decode K0.bytes 156 = .ok (.new 32, 3) := at_156
theorem d0_159 : decode K0.bytes 159 = .ok (.dup, 1) := at_159
theorem d0_160 : decode K0.bytes 160 = .ok (.iconst 2, 1) := at_160
theorem d0_161 : decode K0.bytes 161 = .ok (.aload 11, 2) := at_161
theorem d0_163 : decode K0.bytes 163 = .ok (.aload 12, 2) := at_163
theorem d0_165 : decode K0.bytes 165 = .ok (.aload 13, 2) := at_165
theorem d0_167 : decode K0.bytes 167 = .ok (.invokespecial 34, 3) := at_167
theorem d0_170 : decode K0.bytes 170 = .ok (.astore 14, 2) := at_170
theorem d0_172 : decode K0.bytes 172 = .ok (.aload 14, 2) := at_172
theorem d0_174 : decode K0.bytes 174 = .ok (.iload 9, 2) := at_174
theorem d0_176 : decode K0.bytes 176 = .ok (.iload_n 2, 1) := at_176
theorem d0_177 : decode K0.bytes 177 = .ok (.iload 10, 2) := at_177
theorem d0_179 : decode K0.bytes 179 = .ok (.invokevirtual 37, 3) := at_179
theorem d0_182 : decode K0.bytes 182 = .ok (.istore 15, 2) := at_182
theorem d0_184 : decode K0.bytes 184 = .ok (.iload 10, 2) := at_184
theorem d0_186 : decode K0.bytes 186 = .ok (.ifCond .ne 7, 3) := at_186
theorem d0_189 : decode K0.bytes 189 = .ok (.iload_n 0, 1) := at_189
theorem d0_190 : decode K0.bytes 190 = .ok (.goto 4, 3) := at_190
theorem d0_193 : decode K0.bytes 193 = .ok (.iload_n 1, 1) := at_193
theorem d0_194 : decode K0.bytes 194 = .ok (.istore 16, 2) := at_194
theorem d0_196 : decode K0.bytes 196 = .ok (.iload 10, 2) := at_196
theorem d0_198 : decode K0.bytes 198 = .ok (.ifCond .ne 8, 3) := at_198
theorem d0_201 : decode K0.bytes 201 = .ok (.iload 4, 2) := at_201
theorem d0_203 : decode K0.bytes 203 = .ok (.goto 5, 3) := at_203
theorem d0_206 : decode K0.bytes 206 = .ok (.iload 5, 2) := at_206
theorem d0_208 : decode K0.bytes 208 = .ok (.istore 17, 2) := at_208
theorem d0_210 : decode K0.bytes 210 = .ok (.iload 8, 2) := at_210
theorem d0_212 : decode K0.bytes 212 = .ok (.ifCond .eq 7, 3) := at_212
theorem d0_215 : decode K0.bytes 215 = .ok (.iconst 0, 1) := at_215
theorem d0_216 : decode K0.bytes 216 = .ok (.goto 15, 3) := at_216
theorem d0_219 : decode K0.bytes 219 = .ok (.iload 9, 2) := at_219
theorem d0_221 : decode K0.bytes 221 = .ok (.ifCond .ne 8, 3) := at_221
theorem d0_224 : decode K0.bytes 224 = .ok (.iload 6, 2) := at_224
theorem d0_226 : decode K0.bytes 226 = .ok (.goto 5, 3) := at_226
theorem d0_229 : decode K0.bytes 229 = .ok (.iload 7, 2) := at_229
theorem d0_231 : decode K0.bytes 231 = .ok (.istore 18, 2) := at_231
theorem d0_233 : decode K0.bytes 233 = .ok (.iload 16, 2) := at_233
theorem d0_235 : decode K0.bytes 235 = .ok (.iload_n 2, 1) := at_235
theorem d0_236 : decode K0.bytes 236 = .ok (.if_icmp .lt 17, 3) := at_236
theorem d0_239 : decode K0.bytes 239 = .ok (.iload 18, 2) := at_239
theorem d0_241 : decode K0.bytes 241 = .ok (.iload 17, 2) := at_241
theorem d0_243 : decode K0.bytes 243 = .ok (.iconst (-1), 1) := at_243
theorem d0_244 : decode K0.bytes 244 = .ok (.ixor, 1) := at_244
theorem d0_245 : decode K0.bytes 245 = .ok (.iand, 1) := at_245
theorem d0_246 : decode K0.bytes 246 = .ok (.ifCond .ne 7, 3) := at_246
theorem d0_249 : decode K0.bytes 249 = .ok (.iconst 1, 1) := at_249
theorem d0_250 : decode K0.bytes 250 = .ok (.goto 4, 3) := at_250
theorem d0_253 : decode K0.bytes 253 = .ok (.iconst 0, 1) := at_253
theorem d0_254 : decode K0.bytes 254 = .ok (.istore 19, 2) := at_254
theorem d0_256 : decode K0.bytes 256 = .ok (.iload 15, 2) := at_256
theorem d0_258 : decode K0.bytes 258 = .ok (.iload 19, 2) := at_258
theorem d0_260 : decode K0.bytes 260 = .ok (.if_icmp .ne 7, 3) := at_260
theorem d0_263 : decode K0.bytes 263 = .ok (.iconst 1, 1) := at_263
theorem d0_264 : decode K0.bytes 264 = .ok (.goto 4, 3) := at_264
theorem d0_268 : decode K0.bytes 268 = .ok (.ireturn, 1) := at_268
theorem d1_0 : decode K1.bytes 0 = .ok (.aload_n 0, 1) := by decide +kernel
theorem d1_1 : decode K1.bytes 1 = .ok (.invokespecial 1, 3) := by decide +kernel
theorem d1_4 : decode K1.bytes 4 = .ok (.aload_n 0, 1) := by decide +kernel
theorem d1_5 : decode K1.bytes 5 = .ok (.getstatic 39, 3) := by decide +kernel
theorem d1_8 : decode K1.bytes 8 = .ok (.putfield 9, 3) := by decide +kernel
theorem d1_11 : decode K1.bytes 11 = .ok (.return_, 1) := by decide +kernel
theorem d2_0 : decode K2.bytes 0 = .ok (.aload_n 0, 1) := by decide +kernel
theorem d2_1 : decode K2.bytes 1 = .ok (.invokespecial 1, 3) := by decide +kernel
theorem d2_4 : decode K2.bytes 4 = .ok (.aload_n 0, 1) := by decide +kernel
theorem d2_5 : decode K2.bytes 5 = .ok (.iconst 0, 1) := by decide +kernel
theorem d2_6 : decode K2.bytes 6 = .ok (.putfield 7, 3) := by decide +kernel
theorem d2_9 : decode K2.bytes 9 = .ok (.return_, 1) := by decide +kernel
theorem d3_0 : decode K3.bytes 0 = .ok (.aload_n 0, 1) := by decide +kernel
theorem d3_1 : decode K3.bytes 1 = .ok (.invokespecial 1, 3) := by decide +kernel
theorem d3_4 : decode K3.bytes 4 = .ok (.return_, 1) := by decide +kernel
theorem d5_0 : decode K5.bytes 0 = .ok (.new 7, 3) := by decide +kernel
theorem d5_3 : decode K5.bytes 3 = .ok (.dup, 1) := by decide +kernel
theorem d5_4 : decode K5.bytes 4 = .ok (.invokespecial 9, 3) := by decide +kernel
theorem d5_7 : decode K5.bytes 7 = .ok (.astore_n 1, 1) := by decide +kernel
theorem d5_8 : decode K5.bytes 8 = .ok (.iload_n 0, 1) := by decide +kernel
theorem d5_9 : decode K5.bytes 9 = .ok (.iconst 1, 1) := by decide +kernel
theorem d5_10 : decode K5.bytes 10 = .ok (.iand, 1) := by decide +kernel
theorem d5_11 : decode K5.bytes 11 = .ok (.ifCond .eq 8, 3) := by decide +kernel
theorem d5_14 : decode K5.bytes 14 = .ok (.aload_n 1, 1) := by decide +kernel
theorem d5_15 : decode K5.bytes 15 = .ok (.iconst 0, 1) := by decide +kernel
theorem d5_16 : decode K5.bytes 16 = .ok (.invokevirtual 10, 3) := by decide +kernel
theorem d5_19 : decode K5.bytes 19 = .ok (.iload_n 0, 1) := by decide +kernel
theorem d5_20 : decode K5.bytes 20 = .ok (.iconst 2, 1) := by decide +kernel
theorem d5_21 : decode K5.bytes 21 = .ok (.iand, 1) := by decide +kernel
theorem d5_22 : decode K5.bytes 22 = .ok (.ifCond .eq 8, 3) := by decide +kernel
theorem d5_25 : decode K5.bytes 25 = .ok (.aload_n 1, 1) := by decide +kernel
theorem d5_26 : decode K5.bytes 26 = .ok (.iconst 1, 1) := by decide +kernel
theorem d5_27 : decode K5.bytes 27 = .ok (.invokevirtual 10, 3) := by decide +kernel
theorem d5_30 : decode K5.bytes 30 = .ok (.iload_n 0, 1) := by decide +kernel
theorem d5_31 : decode K5.bytes 31 = .ok (.iconst 4, 1) := by decide +kernel
theorem d5_32 : decode K5.bytes 32 = .ok (.iand, 1) := by decide +kernel
theorem d5_33 : decode K5.bytes 33 = .ok (.ifCond .eq 8, 3) := by decide +kernel
theorem d5_36 : decode K5.bytes 36 = .ok (.aload_n 1, 1) := by decide +kernel
theorem d5_37 : decode K5.bytes 37 = .ok (.iconst 5, 1) := by decide +kernel
theorem d5_38 : decode K5.bytes 38 = .ok (.invokevirtual 10, 3) := by decide +kernel
theorem d5_41 : decode K5.bytes 41 = .ok (.iload_n 0, 1) := by decide +kernel
theorem d5_42 : decode K5.bytes 42 = .ok (.bipush 8, 2) := by decide +kernel
theorem d5_44 : decode K5.bytes 44 = .ok (.iand, 1) := by decide +kernel
theorem d5_45 : decode K5.bytes 45 = .ok (.ifCond .eq 9, 3) := by decide +kernel
theorem d5_48 : decode K5.bytes 48 = .ok (.aload_n 1, 1) := by decide +kernel
theorem d5_49 : decode K5.bytes 49 = .ok (.bipush 70, 2) := by decide +kernel
theorem d5_51 : decode K5.bytes 51 = .ok (.invokevirtual 10, 3) := by decide +kernel
theorem d5_54 : decode K5.bytes 54 = .ok (.aload_n 1, 1) := by decide +kernel
theorem d5_55 : decode K5.bytes 55 = .ok (.areturn, 1) := by decide +kernel
theorem d6_0 : decode K6.bytes 0 = .ok (.aload_n 0, 1) := by decide +kernel
theorem d6_1 : decode K6.bytes 1 = .ok (.invokespecial 21, 3) := by decide +kernel
theorem d6_4 : decode K6.bytes 4 = .ok (.aload_n 0, 1) := by decide +kernel
theorem d6_5 : decode K6.bytes 5 = .ok (.iconst 0, 1) := by decide +kernel
theorem d6_6 : decode K6.bytes 6 = .ok (.putfield 7, 3) := by decide +kernel
theorem d6_9 : decode K6.bytes 9 = .ok (.aload_n 0, 1) := by decide +kernel
theorem d6_10 : decode K6.bytes 10 = .ok (.iconst 0, 1) := by decide +kernel
theorem d6_11 : decode K6.bytes 11 = .ok (.putfield 24, 3) := by decide +kernel
theorem d6_14 : decode K6.bytes 14 = .ok (.aload_n 0, 1) := by decide +kernel
theorem d6_15 : decode K6.bytes 15 = .ok (.bipush 64, 2) := by decide +kernel
theorem d6_17 : decode K6.bytes 17 = .ok (.invokevirtual 27, 3) := by decide +kernel
theorem d6_20 : decode K6.bytes 20 = .ok (.aload_n 0, 1) := by decide +kernel
theorem d6_21 : decode K6.bytes 21 = .ok (.iconst 0, 1) := by decide +kernel
theorem d6_22 : decode K6.bytes 22 = .ok (.putfield 24, 3) := by decide +kernel
theorem d6_25 : decode K6.bytes 25 = .ok (.return_, 1) := by decide +kernel
theorem d7_0 : decode K7.bytes 0 = .ok (.aload_n 0, 1) := by decide +kernel
theorem d7_1 : decode K7.bytes 1 = .ok (.iload_n 1, 1) := by decide +kernel
theorem d7_2 : decode K7.bytes 2 = .ok (.iconst 1, 1) := by decide +kernel
theorem d7_3 : decode K7.bytes 3 = .ok (.isub, 1) := by decide +kernel
theorem d7_4 : decode K7.bytes 4 = .ok (.invokestatic 52, 3) := by decide +kernel
theorem d7_7 : decode K7.bytes 7 = .ok (.iconst 1, 1) := by decide +kernel
theorem d7_8 : decode K7.bytes 8 = .ok (.iadd, 1) := by decide +kernel
theorem d7_9 : decode K7.bytes 9 = .ok (.newarray .long, 2) := by decide +kernel
theorem d7_11 : decode K7.bytes 11 = .ok (.putfield 11, 3) := by decide +kernel
theorem d7_14 : decode K7.bytes 14 = .ok (.return_, 1) := by decide +kernel
theorem d8_0 : decode K8.bytes 0 = .ok (.iload_n 0, 1) := by decide +kernel
theorem d8_1 : decode K8.bytes 1 = .ok (.bipush 6, 2) := by decide +kernel
theorem d8_3 : decode K8.bytes 3 = .ok (.ishr, 1) := by decide +kernel
theorem d8_4 : decode K8.bytes 4 = .ok (.ireturn, 1) := by decide +kernel
theorem d9_0 : decode K9.bytes 0 = .ok (.iload_n 1, 1) := by decide +kernel
theorem d9_1 : decode K9.bytes 1 = .ok (.ifCond .ge 30, 3) := by decide +kernel
theorem d9_31 : decode K9.bytes 31 = .ok (.iload_n 1, 1) := by decide +kernel
theorem d9_32 : decode K9.bytes 32 = .ok (.invokestatic 52, 3) := by decide +kernel
theorem d9_35 : decode K9.bytes 35 = .ok (.istore_n 2, 1) := by decide +kernel
theorem d9_36 : decode K9.bytes 36 = .ok (.aload_n 0, 1) := by decide +kernel
theorem d9_37 : decode K9.bytes 37 = .ok (.iload_n 2, 1) := by decide +kernel
theorem d9_38 : decode K9.bytes 38 = .ok (.invokevirtual 155, 3) := by decide +kernel
theorem d9_41 : decode K9.bytes 41 = .ok (.aload_n 0, 1) := by decide +kernel
theorem d9_42 : decode K9.bytes 42 = .ok (.getfield 11, 3) := by decide +kernel
theorem d9_45 : decode K9.bytes 45 = .ok (.iload_n 2, 1) := by decide +kernel
theorem d9_46 : decode K9.bytes 46 = .ok (.dup2, 1) := by decide +kernel
theorem d9_47 : decode K9.bytes 47 = .ok (.laload, 1) := by decide +kernel
theorem d9_48 : decode K9.bytes 48 = .ok (.lconst 1, 1) := by decide +kernel
theorem d9_49 : decode K9.bytes 49 = .ok (.iload_n 1, 1) := by decide +kernel
theorem d9_50 : decode K9.bytes 50 = .ok (.lshl, 1) := by decide +kernel
theorem d9_51 : decode K9.bytes 51 = .ok (.lor, 1) := by decide +kernel
theorem d9_52 : decode K9.bytes 52 = .ok (.lastore, 1) := by decide +kernel
theorem d9_53 : decode K9.bytes 53 = .ok (.aload_n 0, 1) := by decide +kernel
theorem d9_54 : decode K9.bytes 54 = .ok (.invokevirtual 56, 3) := by decide +kernel
theorem d9_57 : decode K9.bytes 57 = .ok (.return_, 1) := by decide +kernel
theorem d10_0 : decode K10.bytes 0 = .ok (.iload_n 1, 1) := by decide +kernel
theorem d10_1 : decode K10.bytes 1 = .ok (.iconst 1, 1) := by decide +kernel
theorem d10_2 : decode K10.bytes 2 = .ok (.iadd, 1) := by decide +kernel
theorem d10_3 : decode K10.bytes 3 = .ok (.istore_n 2, 1) := by decide +kernel
theorem d10_4 : decode K10.bytes 4 = .ok (.aload_n 0, 1) := by decide +kernel
theorem d10_5 : decode K10.bytes 5 = .ok (.getfield 7, 3) := by decide +kernel
theorem d10_8 : decode K10.bytes 8 = .ok (.iload_n 2, 1) := by decide +kernel
theorem d10_9 : decode K10.bytes 9 = .ok (.if_icmp .ge 13, 3) := by decide +kernel
theorem d10_12 : decode K10.bytes 12 = .ok (.aload_n 0, 1) := by decide +kernel
theorem d10_13 : decode K10.bytes 13 = .ok (.iload_n 2, 1) := by decide +kernel
theorem d10_14 : decode K10.bytes 14 = .ok (.invokevirtual 139, 3) := by decide +kernel
theorem d10_17 : decode K10.bytes 17 = .ok (.aload_n 0, 1) := by decide +kernel
theorem d10_18 : decode K10.bytes 18 = .ok (.iload_n 2, 1) := by decide +kernel
theorem d10_19 : decode K10.bytes 19 = .ok (.putfield 7, 3) := by decide +kernel
theorem d10_22 : decode K10.bytes 22 = .ok (.return_, 1) := by decide +kernel
theorem d11_0 : decode K11.bytes 0 = .ok (.aload_n 0, 1) := by decide +kernel
theorem d11_1 : decode K11.bytes 1 = .ok (.getfield 11, 3) := by decide +kernel
theorem d11_4 : decode K11.bytes 4 = .ok (.arraylength, 1) := by decide +kernel
theorem d11_5 : decode K11.bytes 5 = .ok (.iload_n 1, 1) := by decide +kernel
theorem d11_6 : decode K11.bytes 6 = .ok (.if_icmp .ge 32, 3) := by decide +kernel
theorem d11_9 : decode K11.bytes 9 = .ok (.iconst 2, 1) := by decide +kernel
theorem d11_10 : decode K11.bytes 10 = .ok (.aload_n 0, 1) := by decide +kernel
theorem d11_11 : decode K11.bytes 11 = .ok (.getfield 11, 3) := by decide +kernel
theorem d11_14 : decode K11.bytes 14 = .ok (.arraylength, 1) := by decide +kernel
theorem d11_15 : decode K11.bytes 15 = .ok (.imul, 1) := by decide +kernel
theorem d11_16 : decode K11.bytes 16 = .ok (.iload_n 1, 1) := by decide +kernel
theorem d11_17 : decode K11.bytes 17 = .ok (.invokestatic 133, 3) := by decide +kernel
theorem d11_20 : decode K11.bytes 20 = .ok (.istore_n 2, 1) := by decide +kernel
theorem d11_21 : decode K11.bytes 21 = .ok (.aload_n 0, 1) := by decide +kernel
theorem d11_22 : decode K11.bytes 22 = .ok (.aload_n 0, 1) := by decide +kernel
theorem d11_23 : decode K11.bytes 23 = .ok (.getfield 11, 3) := by decide +kernel
theorem d11_26 : decode K11.bytes 26 = .ok (.iload_n 2, 1) := by decide +kernel
theorem d11_27 : decode K11.bytes 27 = .ok (.invokestatic 59, 3) := by decide +kernel
theorem d11_30 : decode K11.bytes 30 = .ok (.putfield 11, 3) := by decide +kernel
theorem d11_33 : decode K11.bytes 33 = .ok (.aload_n 0, 1) := by decide +kernel
theorem d11_34 : decode K11.bytes 34 = .ok (.iconst 0, 1) := by decide +kernel
theorem d11_35 : decode K11.bytes 35 = .ok (.putfield 24, 3) := by decide +kernel
theorem d11_38 : decode K11.bytes 38 = .ok (.return_, 1) := by decide +kernel
theorem d12_0 : decode K12.bytes 0 = .ok (.getstatic 3, 3) := by decide +kernel
theorem d12_3 : decode K12.bytes 3 = .ok (.ifCond .ne 34, 3) := by decide +kernel
theorem d12_37 : decode K12.bytes 37 = .ok (.getstatic 3, 3) := by decide +kernel
theorem d12_40 : decode K12.bytes 40 = .ok (.ifCond .ne 30, 3) := by decide +kernel
theorem d12_70 : decode K12.bytes 70 = .ok (.getstatic 3, 3) := by decide +kernel
theorem d12_73 : decode K12.bytes 73 = .ok (.ifCond .ne 37, 3) := by decide +kernel
theorem d12_110 : decode K12.bytes 110 = .ok (.return_, 1) := by decide +kernel
theorem d13_0 : decode K13.bytes 0 = .ok (.aload_n 0, 1) := by decide +kernel
theorem d13_1 : decode K13.bytes 1 = .ok (.invokespecial 1, 3) := by decide +kernel
theorem d13_4 : decode K13.bytes 4 = .ok (.aload_n 0, 1) := by decide +kernel
theorem d13_5 : decode K13.bytes 5 = .ok (.iload_n 1, 1) := by decide +kernel
theorem d13_6 : decode K13.bytes 6 = .ok (.putfield 7, 3) := by decide +kernel
theorem d13_9 : decode K13.bytes 9 = .ok (.aload_n 0, 1) := by decide +kernel
theorem d13_10 : decode K13.bytes 10 = .ok (.aload_n 2, 1) := by decide +kernel
theorem d13_11 : decode K13.bytes 11 = .ok (.putfield 13, 3) := by decide +kernel
theorem d13_14 : decode K13.bytes 14 = .ok (.return_, 1) := by decide +kernel
theorem d14_0 : decode K14.bytes 0 = .ok (.aload_n 0, 1) := by decide +kernel
theorem d14_1 : decode K14.bytes 1 = .ok (.invokespecial 1, 3) := by decide +kernel
theorem d14_4 : decode K14.bytes 4 = .ok (.return_, 1) := by decide +kernel
theorem d15_0 : decode K15.bytes 0 = .ok (.aload_n 0, 1) := by decide +kernel
theorem d15_1 : decode K15.bytes 1 = .ok (.dup, 1) := by decide +kernel
theorem d15_2 : decode K15.bytes 2 = .ok (.getfield 63, 3) := by decide +kernel
theorem d15_5 : decode K15.bytes 5 = .ok (.iconst 1, 1) := by decide +kernel
theorem d15_6 : decode K15.bytes 6 = .ok (.iadd, 1) := by decide +kernel
theorem d15_7 : decode K15.bytes 7 = .ok (.putfield 63, 3) := by decide +kernel
theorem d15_10 : decode K15.bytes 10 = .ok (.aload_n 0, 1) := by decide +kernel
theorem d15_11 : decode K15.bytes 11 = .ok (.aload_n 1, 1) := by decide +kernel
theorem d15_12 : decode K15.bytes 12 = .ok (.aload_n 0, 1) := by decide +kernel
theorem d15_13 : decode K15.bytes 13 = .ok (.getfield 9, 3) := by decide +kernel
theorem d15_16 : decode K15.bytes 16 = .ok (.aload_n 0, 1) := by decide +kernel
theorem d15_17 : decode K15.bytes 17 = .ok (.getfield 48, 3) := by decide +kernel
theorem d15_20 : decode K15.bytes 20 = .ok (.invokevirtual 131, 3) := by decide +kernel
theorem d15_23 : decode K15.bytes 23 = .ok (.iconst 1, 1) := by decide +kernel
theorem d15_24 : decode K15.bytes 24 = .ok (.ireturn, 1) := by decide +kernel
theorem d16_0 : decode K16.bytes 0 = .ok (.iload_n 3, 1) := by decide +kernel
theorem d16_1 : decode K16.bytes 1 = .ok (.aload_n 2, 1) := by decide +kernel
theorem d16_2 : decode K16.bytes 2 = .ok (.arraylength, 1) := by decide +kernel
theorem d16_3 : decode K16.bytes 3 = .ok (.if_icmp .ne 8, 3) := by decide +kernel
theorem d16_6 : decode K16.bytes 6 = .ok (.aload_n 0, 1) := by decide +kernel
theorem d16_7 : decode K16.bytes 7 = .ok (.invokevirtual 129, 3) := by decide +kernel
theorem d16_10 : decode K16.bytes 10 = .ok (.astore_n 2, 1) := by decide +kernel
theorem d16_11 : decode K16.bytes 11 = .ok (.aload_n 2, 1) := by decide +kernel
theorem d16_12 : decode K16.bytes 12 = .ok (.iload_n 3, 1) := by decide +kernel
theorem d16_13 : decode K16.bytes 13 = .ok (.aload_n 1, 1) := by decide +kernel
theorem d16_14 : decode K16.bytes 14 = .ok (.aastore, 1) := by decide +kernel
theorem d16_15 : decode K16.bytes 15 = .ok (.aload_n 0, 1) := by decide +kernel
theorem d16_16 : decode K16.bytes 16 = .ok (.iload_n 3, 1) := by decide +kernel
theorem d16_17 : decode K16.bytes 17 = .ok (.iconst 1, 1) := by decide +kernel
theorem d16_18 : decode K16.bytes 18 = .ok (.iadd, 1) := by decide +kernel
theorem d16_19 : decode K16.bytes 19 = .ok (.putfield 48, 3) := by decide +kernel
theorem d16_22 : decode K16.bytes 22 = .ok (.return_, 1) := by decide +kernel
theorem d17_0 : decode K17.bytes 0 = .ok (.aload_n 0, 1) := by decide +kernel
theorem d17_1 : decode K17.bytes 1 = .ok (.aload_n 0, 1) := by decide +kernel
theorem d17_2 : decode K17.bytes 2 = .ok (.getfield 48, 3) := by decide +kernel
theorem d17_5 : decode K17.bytes 5 = .ok (.iconst 1, 1) := by decide +kernel
theorem d17_6 : decode K17.bytes 6 = .ok (.iadd, 1) := by decide +kernel
theorem d17_7 : decode K17.bytes 7 = .ok (.invokevirtual 69, 3) := by decide +kernel
theorem d17_10 : decode K17.bytes 10 = .ok (.areturn, 1) := by decide +kernel
theorem d18_0 : decode K18.bytes 0 = .ok (.aload_n 0, 1) := by decide +kernel
theorem d18_1 : decode K18.bytes 1 = .ok (.getfield 9, 3) := by decide +kernel
theorem d18_4 : decode K18.bytes 4 = .ok (.arraylength, 1) := by decide +kernel
theorem d18_5 : decode K18.bytes 5 = .ok (.istore_n 2, 1) := by decide +kernel
theorem d18_6 : decode K18.bytes 6 = .ok (.iload_n 2, 1) := by decide +kernel
theorem d18_7 : decode K18.bytes 7 = .ok (.ifCond .gt 13, 3) := by decide +kernel
theorem d18_10 : decode K18.bytes 10 = .ok (.aload_n 0, 1) := by decide +kernel
theorem d18_11 : decode K18.bytes 11 = .ok (.getfield 9, 3) := by decide +kernel
theorem d18_14 : decode K18.bytes 14 = .ok (.getstatic 39, 3) := by decide +kernel
theorem d18_17 : decode K18.bytes 17 = .ok (.if_acmp .eq 28, 3) := by decide +kernel
theorem d18_45 : decode K18.bytes 45 = .ok (.aload_n 0, 1) := by decide +kernel
theorem d18_46 : decode K18.bytes 46 = .ok (.bipush 10, 2) := by decide +kernel
theorem d18_48 : decode K18.bytes 48 = .ok (.iload_n 1, 1) := by decide +kernel
theorem d18_49 : decode K18.bytes 49 = .ok (.invokestatic 79, 3) := by decide +kernel
theorem d18_52 : decode K18.bytes 52 = .ok (.anewarray 7, 3) := by decide +kernel
theorem d18_55 : decode K18.bytes 55 = .ok (.dup_x1, 1) := by decide +kernel
theorem d18_56 : decode K18.bytes 56 = .ok (.putfield 9, 3) := by decide +kernel
theorem d18_59 : decode K18.bytes 59 = .ok (.areturn, 1) := by decide +kernel
theorem d19_0 : decode K19.bytes 0 = .ok (.iload_n 0, 1) := by decide +kernel
theorem d19_1 : decode K19.bytes 1 = .ok (.iload_n 1, 1) := by decide +kernel
theorem d19_2 : decode K19.bytes 2 = .ok (.if_icmp .lt 7, 3) := by decide +kernel
theorem d19_5 : decode K19.bytes 5 = .ok (.iload_n 0, 1) := by decide +kernel
theorem d19_6 : decode K19.bytes 6 = .ok (.goto 4, 3) := by decide +kernel
theorem d19_10 : decode K19.bytes 10 = .ok (.ireturn, 1) := by decide +kernel
theorem d20_0 : decode K20.bytes 0 = .ok (.aload_n 0, 1) := by decide +kernel
theorem d20_1 : decode K20.bytes 1 = .ok (.invokespecial 3, 3) := by decide +kernel
theorem d20_4 : decode K20.bytes 4 = .ok (.aload_n 0, 1) := by decide +kernel
theorem d20_5 : decode K20.bytes 5 = .ok (.iload_n 1, 1) := by decide +kernel
theorem d20_6 : decode K20.bytes 6 = .ok (.putfield 9, 3) := by decide +kernel
theorem d20_9 : decode K20.bytes 9 = .ok (.aload_n 0, 1) := by decide +kernel
theorem d20_10 : decode K20.bytes 10 = .ok (.aload_n 2, 1) := by decide +kernel
theorem d20_11 : decode K20.bytes 11 = .ok (.invokestatic 13, 3) := by decide +kernel
theorem d20_14 : decode K20.bytes 14 = .ok (.putfield 19, 3) := by decide +kernel
theorem d20_17 : decode K20.bytes 17 = .ok (.aload_n 0, 1) := by decide +kernel
theorem d20_18 : decode K20.bytes 18 = .ok (.aload_n 3, 1) := by decide +kernel
theorem d20_19 : decode K20.bytes 19 = .ok (.invokestatic 13, 3) := by decide +kernel
theorem d20_22 : decode K20.bytes 22 = .ok (.putfield 23, 3) := by decide +kernel
theorem d20_25 : decode K20.bytes 25 = .ok (.aload_n 0, 1) := by decide +kernel
theorem d20_26 : decode K20.bytes 26 = .ok (.aload 4, 2) := by decide +kernel
theorem d20_28 : decode K20.bytes 28 = .ok (.invokestatic 13, 3) := by decide +kernel
theorem d20_31 : decode K20.bytes 31 = .ok (.putfield 26, 3) := by decide +kernel
theorem d20_34 : decode K20.bytes 34 = .ok (.return_, 1) := by decide +kernel
theorem d21_0 : decode K21.bytes 0 = .ok (.aload_n 0, 1) := by decide +kernel
theorem d21_1 : decode K21.bytes 1 = .ok (.invokestatic 112, 3) := by decide +kernel
theorem d21_4 : decode K21.bytes 4 = .ok (.areturn, 1) := by decide +kernel
theorem d22_0 : decode K22.bytes 0 = .ok (.aload_n 0, 1) := by decide +kernel
theorem d22_1 : decode K22.bytes 1 = .ok (.instanceof 10, 3) := by decide +kernel
theorem d22_4 : decode K22.bytes 4 = .ok (.ifCond .ne 22, 3) := by decide +kernel
theorem d22_7 : decode K22.bytes 7 = .ok (.aload_n 0, 1) := by decide +kernel
theorem d22_8 : decode K22.bytes 8 = .ok (.instanceof 12, 3) := by decide +kernel
theorem d22_11 : decode K22.bytes 11 = .ok (.ifCond .eq 20, 3) := by decide +kernel
theorem d22_31 : decode K22.bytes 31 = .ok (.aload_n 0, 1) := by decide +kernel
theorem d22_32 : decode K22.bytes 32 = .ok (.invokeinterface 20 1, 5) := by decide +kernel
theorem d22_37 : decode K22.bytes 37 = .ok (.ifCond .eq 7, 3) := by decide +kernel
theorem d22_40 : decode K22.bytes 40 = .ok (.invokestatic 26, 3) := by decide +kernel
theorem d22_43 : decode K22.bytes 43 = .ok (.areturn, 1) := by decide +kernel
theorem d22_44 : decode K22.bytes 44 = .ok (.aload_n 0, 1) := by decide +kernel
theorem d22_45 : decode K22.bytes 45 = .ok (.invokeinterface 30 1, 5) := by decide +kernel
theorem d22_50 : decode K22.bytes 50 = .ok (.invokestatic 34, 3) := by decide +kernel
theorem d22_53 : decode K22.bytes 53 = .ok (.areturn, 1) := by decide +kernel
theorem d23_0 : decode K23.bytes 0 = .ok (.aload_n 0, 1) := by decide +kernel
theorem d23_1 : decode K23.bytes 1 = .ok (.getfield 48, 3) := by decide +kernel
theorem d23_4 : decode K23.bytes 4 = .ok (.ifCond .ne 7, 3) := by decide +kernel
theorem d23_7 : decode K23.bytes 7 = .ok (.iconst 1, 1) := by decide +kernel
theorem d23_8 : decode K23.bytes 8 = .ok (.goto 4, 3) := by decide +kernel
theorem d23_11 : decode K23.bytes 11 = .ok (.iconst 0, 1) := by decide +kernel
theorem d23_12 : decode K23.bytes 12 = .ok (.ireturn, 1) := by decide +kernel
theorem d24_0 : decode K24.bytes 0 = .ok (.aload_n 0, 1) := by decide +kernel
theorem d24_1 : decode K24.bytes 1 = .ok (.getfield 9, 3) := by decide +kernel
theorem d24_4 : decode K24.bytes 4 = .ok (.aload_n 0, 1) := by decide +kernel
theorem d24_5 : decode K24.bytes 5 = .ok (.getfield 48, 3) := by decide +kernel
theorem d24_8 : decode K24.bytes 8 = .ok (.invokestatic 66, 3) := by decide +kernel
theorem d24_11 : decode K24.bytes 11 = .ok (.areturn, 1) := by decide +kernel
theorem d25_0 : decode K25.bytes 0 = .ok (.aload_n 0, 1) := by decide +kernel
theorem d25_1 : decode K25.bytes 1 = .ok (.iload_n 1, 1) := by decide +kernel
theorem d25_2 : decode K25.bytes 2 = .ok (.aload_n 0, 1) := by decide +kernel
theorem d25_3 : decode K25.bytes 3 = .ok (.invokevirtual 86, 3) := by decide +kernel
theorem d25_6 : decode K25.bytes 6 = .ok (.invokestatic 300, 3) := by decide +kernel
theorem d25_9 : decode K25.bytes 9 = .ok (.areturn, 1) := by decide +kernel
theorem d26_0 : decode K26.bytes 0 = .ok (.aload_n 2, 1) := by decide +kernel
theorem d26_1 : decode K26.bytes 1 = .ok (.ldc 110, 2) := by decide +kernel
theorem d26_3 : decode K26.bytes 3 = .ok (.if_acmp .ne 10, 3) := by decide +kernel
theorem d26_6 : decode K26.bytes 6 = .ok (.iload_n 1, 1) := by decide +kernel
theorem d26_7 : decode K26.bytes 7 = .ok (.anewarray 2, 3) := by decide +kernel
theorem d26_10 : decode K26.bytes 10 = .ok (.goto 14, 3) := by decide +kernel
theorem d26_24 : decode K26.bytes 24 = .ok (.astore_n 3, 1) := by decide +kernel
theorem d26_25 : decode K26.bytes 25 = .ok (.aload_n 0, 1) := by decide +kernel
theorem d26_26 : decode K26.bytes 26 = .ok (.iconst 0, 1) := by decide +kernel
theorem d26_27 : decode K26.bytes 27 = .ok (.aload_n 3, 1) := by decide +kernel
theorem d26_28 : decode K26.bytes 28 = .ok (.iconst 0, 1) := by decide +kernel
theorem d26_29 : decode K26.bytes 29 = .ok (.aload_n 0, 1) := by decide +kernel
theorem d26_30 : decode K26.bytes 30 = .ok (.arraylength, 1) := by decide +kernel
theorem d26_31 : decode K26.bytes 31 = .ok (.iload_n 1, 1) := by decide +kernel
theorem d26_32 : decode K26.bytes 32 = .ok (.invokestatic 304, 3) := by decide +kernel
theorem d26_35 : decode K26.bytes 35 = .ok (.invokestatic 150, 3) := by decide +kernel
theorem d26_38 : decode K26.bytes 38 = .ok (.aload_n 3, 1) := by decide +kernel
theorem d26_39 : decode K26.bytes 39 = .ok (.areturn, 1) := by decide +kernel
theorem d27_0 : decode K27.bytes 0 = .ok (.iload_n 0, 1) := by decide +kernel
theorem d27_1 : decode K27.bytes 1 = .ok (.iload_n 1, 1) := by decide +kernel
theorem d27_2 : decode K27.bytes 2 = .ok (.if_icmp .gt 7, 3) := by decide +kernel
theorem d27_5 : decode K27.bytes 5 = .ok (.iload_n 0, 1) := by decide +kernel
theorem d27_6 : decode K27.bytes 6 = .ok (.goto 4, 3) := by decide +kernel
theorem d27_9 : decode K27.bytes 9 = .ok (.iload_n 1, 1) := by decide +kernel
theorem d27_10 : decode K27.bytes 10 = .ok (.ireturn, 1) := by decide +kernel
theorem d28_0 : decode K28.bytes 0 = .ok (.aload_n 0, 1) := by decide +kernel
theorem d28_1 : decode K28.bytes 1 = .ok (.arraylength, 1) := by decide +kernel
theorem d28_2 : decode K28.bytes 2 = .ok (.tableswitch 57 0 2 #[26, 32, 43], 26) := by decide +kernel
theorem d28_45 : decode K28.bytes 45 = .ok (.new 96, 3) := by decide +kernel
theorem d28_48 : decode K28.bytes 48 = .ok (.dup, 1) := by decide +kernel
theorem d28_49 : decode K28.bytes 49 = .ok (.aload_n 0, 1) := by decide +kernel
theorem d28_50 : decode K28.bytes 50 = .ok (.iconst 0, 1) := by decide +kernel
theorem d28_51 : decode K28.bytes 51 = .ok (.aaload, 1) := by decide +kernel
theorem d28_52 : decode K28.bytes 52 = .ok (.aload_n 0, 1) := by decide +kernel
theorem d28_53 : decode K28.bytes 53 = .ok (.iconst 1, 1) := by decide +kernel
theorem d28_54 : decode K28.bytes 54 = .ok (.aaload, 1) := by decide +kernel
theorem d28_55 : decode K28.bytes 55 = .ok (.invokespecial 100, 3) := by decide +kernel
theorem d28_58 : decode K28.bytes 58 = .ok (.areturn, 1) := by decide +kernel
theorem d29_0 : decode K29.bytes 0 = .ok (.aload_n 0, 1) := by decide +kernel
theorem d29_1 : decode K29.bytes 1 = .ok (.invokespecial 1, 3) := by decide +kernel
theorem d29_4 : decode K29.bytes 4 = .ok (.aload_n 0, 1) := by decide +kernel
theorem d29_5 : decode K29.bytes 5 = .ok (.aload_n 1, 1) := by decide +kernel
theorem d29_6 : decode K29.bytes 6 = .ok (.invokestatic 7, 3) := by decide +kernel
theorem d29_9 : decode K29.bytes 9 = .ok (.putfield 13, 3) := by decide +kernel
theorem d29_12 : decode K29.bytes 12 = .ok (.aload_n 0, 1) := by decide +kernel
theorem d29_13 : decode K29.bytes 13 = .ok (.aload_n 2, 1) := by decide +kernel
theorem d29_14 : decode K29.bytes 14 = .ok (.invokestatic 7, 3) := by decide +kernel
theorem d29_17 : decode K29.bytes 17 = .ok (.putfield 24, 3) := by decide +kernel
theorem d29_20 : decode K29.bytes 20 = .ok (.return_, 1) := by decide +kernel
theorem d30_0 : decode K30.bytes 0 = .ok (.aload_n 0, 1) := by decide +kernel
theorem d30_1 : decode K30.bytes 1 = .ok (.invokespecial 1, 3) := by decide +kernel
theorem d30_4 : decode K30.bytes 4 = .ok (.return_, 1) := by decide +kernel
theorem d31_0 : decode K31.bytes 0 = .ok (.aload_n 0, 1) := by decide +kernel
theorem d31_1 : decode K31.bytes 1 = .ok (.invokespecial 1, 3) := by decide +kernel
theorem d31_4 : decode K31.bytes 4 = .ok (.return_, 1) := by decide +kernel
theorem d32_0 : decode K32.bytes 0 = .ok (.aload_n 0, 1) := by decide +kernel
theorem d32_1 : decode K32.bytes 1 = .ok (.ifnonnull 11, 3) := by decide +kernel
theorem d32_12 : decode K32.bytes 12 = .ok (.aload_n 0, 1) := by decide +kernel
theorem d32_13 : decode K32.bytes 13 = .ok (.areturn, 1) := by decide +kernel
theorem d33_0 : decode K33.bytes 0 = .ok (.getstatic 90, 3) := by decide +kernel
theorem d33_3 : decode K33.bytes 3 = .ok (.areturn, 1) := by decide +kernel
theorem d34_0 : decode K34.bytes 0 = .ok (.aload_n 0, 1) := by decide +kernel
theorem d34_1 : decode K34.bytes 1 = .ok (.getfield 19, 3) := by decide +kernel
theorem d34_4 : decode K34.bytes 4 = .ok (.iload_n 3, 1) := by decide +kernel
theorem d34_5 : decode K34.bytes 5 = .ok (.invokeinterface 45 2, 5) := by decide +kernel
theorem d34_10 : decode K34.bytes 10 = .ok (.checkcast 49, 3) := by decide +kernel
theorem d34_13 : decode K34.bytes 13 = .ok (.astore 4, 2) := by decide +kernel
theorem d34_15 : decode K34.bytes 15 = .ok (.new 51, 3) := by decide +kernel
theorem d34_18 : decode K34.bytes 18 = .ok (.dup, 1) := by decide +kernel
theorem d34_19 : decode K34.bytes 19 = .ok (.invokespecial 53, 3) := by decide +kernel
theorem d34_22 : decode K34.bytes 22 = .ok (.astore 5, 2) := by decide +kernel
theorem d34_24 : decode K34.bytes 24 = .ok (.aload_n 0, 1) := by decide +kernel
theorem d34_25 : decode K34.bytes 25 = .ok (.getfield 23, 3) := by decide +kernel
theorem d34_28 : decode K34.bytes 28 = .ok (.invokeinterface 54 1, 5) := by decide +kernel
theorem d34_33 : decode K34.bytes 33 = .ok (.ifCond .ne 31, 3) := by decide +kernel
theorem d34_36 : decode K34.bytes 36 = .ok (.aload 5, 2) := by decide +kernel
theorem d34_38 : decode K34.bytes 38 = .ok (.aload_n 0, 1) := by decide +kernel
theorem d34_39 : decode K34.bytes 39 = .ok (.getfield 23, 3) := by decide +kernel
theorem d34_42 : decode K34.bytes 42 = .ok (.iload_n 1, 1) := by decide +kernel
theorem d34_43 : decode K34.bytes 43 = .ok (.invokeinterface 45 2, 5) := by decide +kernel
theorem d34_48 : decode K34.bytes 48 = .ok (.checkcast 51, 3) := by decide +kernel
theorem d34_51 : decode K34.bytes 51 = .ok (.invokevirtual 57, 3) := by decide +kernel
theorem d34_54 : decode K34.bytes 54 = .ok (.aload 5, 2) := by decide +kernel
theorem d34_56 : decode K34.bytes 56 = .ok (.aload 4, 2) := by decide +kernel
theorem d34_58 : decode K34.bytes 58 = .ok (.invokevirtual 61, 3) := by decide +kernel
theorem d34_61 : decode K34.bytes 61 = .ok (.invokevirtual 65, 3) := by decide +kernel
theorem d34_64 : decode K34.bytes 64 = .ok (.aload 4, 2) := by decide +kernel
theorem d34_66 : decode K34.bytes 66 = .ok (.invokevirtual 68, 3) := by decide +kernel
theorem d34_69 : decode K34.bytes 69 = .ok (.iload_n 2, 1) := by decide +kernel
theorem d34_70 : decode K34.bytes 70 = .ok (.if_icmp .lt 15, 3) := by decide +kernel
theorem d34_73 : decode K34.bytes 73 = .ok (.aload 5, 2) := by decide +kernel
theorem d34_75 : decode K34.bytes 75 = .ok (.invokevirtual 72, 3) := by decide +kernel
theorem d34_78 : decode K34.bytes 78 = .ok (.ifCond .eq 7, 3) := by decide +kernel
theorem d34_81 : decode K34.bytes 81 = .ok (.iconst 1, 1) := by decide +kernel
theorem d34_82 : decode K34.bytes 82 = .ok (.goto 4, 3) := by decide +kernel
theorem d34_85 : decode K34.bytes 85 = .ok (.iconst 0, 1) := by decide +kernel
theorem d34_86 : decode K34.bytes 86 = .ok (.ireturn, 1) := by decide +kernel
theorem d35_0 : decode K35.bytes 0 = .ok (.iload_n 1, 1) := by decide +kernel
theorem d35_1 : decode K35.bytes 1 = .ok (.ifCond .ne 8, 3) := by decide +kernel
theorem d35_4 : decode K35.bytes 4 = .ok (.aload_n 0, 1) := by decide +kernel
theorem d35_5 : decode K35.bytes 5 = .ok (.getfield 13, 3) := by decide +kernel
theorem d35_8 : decode K35.bytes 8 = .ok (.areturn, 1) := by decide +kernel
theorem d35_9 : decode K35.bytes 9 = .ok (.iload_n 1, 1) := by decide +kernel
theorem d35_10 : decode K35.bytes 10 = .ok (.iconst 1, 1) := by decide +kernel
theorem d35_11 : decode K35.bytes 11 = .ok (.if_icmp .ne 18, 3) := by decide +kernel
theorem d35_14 : decode K35.bytes 14 = .ok (.aload_n 0, 1) := by decide +kernel
theorem d35_15 : decode K35.bytes 15 = .ok (.getfield 24, 3) := by decide +kernel
theorem d35_18 : decode K35.bytes 18 = .ok (.getstatic 19, 3) := by decide +kernel
theorem d35_21 : decode K35.bytes 21 = .ok (.if_acmp .eq 8, 3) := by decide +kernel
theorem d35_24 : decode K35.bytes 24 = .ok (.aload_n 0, 1) := by decide +kernel
theorem d35_25 : decode K35.bytes 25 = .ok (.getfield 24, 3) := by decide +kernel
theorem d35_28 : decode K35.bytes 28 = .ok (.areturn, 1) := by decide +kernel
theorem d36_0 : decode K36.bytes 0 = .ok (.iconst 0, 1) := by decide +kernel
theorem d36_1 : decode K36.bytes 1 = .ok (.ireturn, 1) := by decide +kernel
theorem d37_0 : decode K37.bytes 0 = .ok (.aload_n 0, 1) := by decide +kernel
theorem d37_1 : decode K37.bytes 1 = .ok (.aload_n 1, 1) := by decide +kernel
theorem d37_2 : decode K37.bytes 2 = .ok (.if_acmp .ne 4, 3) := by decide +kernel
theorem d37_6 : decode K37.bytes 6 = .ok (.aload_n 0, 1) := by decide +kernel
theorem d37_7 : decode K37.bytes 7 = .ok (.getfield 7, 3) := by decide +kernel
theorem d37_10 : decode K37.bytes 10 = .ok (.aload_n 1, 1) := by decide +kernel
theorem d37_11 : decode K37.bytes 11 = .ok (.getfield 7, 3) := by decide +kernel
theorem d37_14 : decode K37.bytes 14 = .ok (.invokestatic 193, 3) := by decide +kernel
theorem d37_17 : decode K37.bytes 17 = .ok (.istore_n 2, 1) := by decide +kernel
theorem d37_18 : decode K37.bytes 18 = .ok (.aload_n 0, 1) := by decide +kernel
theorem d37_19 : decode K37.bytes 19 = .ok (.getfield 7, 3) := by decide +kernel
theorem d37_22 : decode K37.bytes 22 = .ok (.aload_n 1, 1) := by decide +kernel
theorem d37_23 : decode K37.bytes 23 = .ok (.getfield 7, 3) := by decide +kernel
theorem d37_26 : decode K37.bytes 26 = .ok (.if_icmp .ge 19, 3) := by decide +kernel
theorem d37_29 : decode K37.bytes 29 = .ok (.aload_n 0, 1) := by decide +kernel
theorem d37_30 : decode K37.bytes 30 = .ok (.aload_n 1, 1) := by decide +kernel
theorem d37_31 : decode K37.bytes 31 = .ok (.getfield 7, 3) := by decide +kernel
theorem d37_34 : decode K37.bytes 34 = .ok (.invokevirtual 139, 3) := by decide +kernel
theorem d37_37 : decode K37.bytes 37 = .ok (.aload_n 0, 1) := by decide +kernel
theorem d37_38 : decode K37.bytes 38 = .ok (.aload_n 1, 1) := by decide +kernel
theorem d37_39 : decode K37.bytes 39 = .ok (.getfield 7, 3) := by decide +kernel
theorem d37_42 : decode K37.bytes 42 = .ok (.putfield 7, 3) := by decide +kernel
theorem d37_45 : decode K37.bytes 45 = .ok (.iconst 0, 1) := by decide +kernel
theorem d37_46 : decode K37.bytes 46 = .ok (.istore_n 3, 1) := by decide +kernel
theorem d37_47 : decode K37.bytes 47 = .ok (.iload_n 3, 1) := by decide +kernel
theorem d37_48 : decode K37.bytes 48 = .ok (.iload_n 2, 1) := by decide +kernel
theorem d37_49 : decode K37.bytes 49 = .ok (.if_icmp .ge 24, 3) := by decide +kernel
theorem d37_73 : decode K37.bytes 73 = .ok (.iload_n 2, 1) := by decide +kernel
theorem d37_74 : decode K37.bytes 74 = .ok (.aload_n 1, 1) := by decide +kernel
theorem d37_75 : decode K37.bytes 75 = .ok (.getfield 7, 3) := by decide +kernel
theorem d37_78 : decode K37.bytes 78 = .ok (.if_icmp .ge 22, 3) := by decide +kernel
theorem d37_81 : decode K37.bytes 81 = .ok (.aload_n 1, 1) := by decide +kernel
theorem d37_82 : decode K37.bytes 82 = .ok (.getfield 11, 3) := by decide +kernel
theorem d37_85 : decode K37.bytes 85 = .ok (.iload_n 2, 1) := by decide +kernel
theorem d37_86 : decode K37.bytes 86 = .ok (.aload_n 0, 1) := by decide +kernel
theorem d37_87 : decode K37.bytes 87 = .ok (.getfield 11, 3) := by decide +kernel
theorem d37_90 : decode K37.bytes 90 = .ok (.iload_n 2, 1) := by decide +kernel
theorem d37_91 : decode K37.bytes 91 = .ok (.aload_n 0, 1) := by decide +kernel
theorem d37_92 : decode K37.bytes 92 = .ok (.getfield 7, 3) := by decide +kernel
theorem d37_95 : decode K37.bytes 95 = .ok (.iload_n 2, 1) := by decide +kernel
theorem d37_96 : decode K37.bytes 96 = .ok (.isub, 1) := by decide +kernel
theorem d37_97 : decode K37.bytes 97 = .ok (.invokestatic 199, 3) := by decide +kernel
theorem d37_100 : decode K37.bytes 100 = .ok (.aload_n 0, 1) := by decide +kernel
theorem d37_101 : decode K37.bytes 101 = .ok (.invokevirtual 56, 3) := by decide +kernel
theorem d37_104 : decode K37.bytes 104 = .ok (.return_, 1) := by decide +kernel
theorem d38_0 : decode K38.bytes 0 = .ok (.aload_n 0, 1) := by decide +kernel
theorem d38_1 : decode K38.bytes 1 = .ok (.getfield 13, 3) := by decide +kernel
theorem d38_4 : decode K38.bytes 4 = .ok (.areturn, 1) := by decide +kernel
theorem d39_0 : decode K39.bytes 0 = .ok (.aload_n 0, 1) := by decide +kernel
theorem d39_1 : decode K39.bytes 1 = .ok (.getfield 7, 3) := by decide +kernel
theorem d39_4 : decode K39.bytes 4 = .ok (.aload_n 1, 1) := by decide +kernel
theorem d39_5 : decode K39.bytes 5 = .ok (.getfield 7, 3) := by decide +kernel
theorem d39_8 : decode K39.bytes 8 = .ok (.invokestatic 193, 3) := by decide +kernel
theorem d39_11 : decode K39.bytes 11 = .ok (.iconst 1, 1) := by decide +kernel
theorem d39_12 : decode K39.bytes 12 = .ok (.isub, 1) := by decide +kernel
theorem d39_13 : decode K39.bytes 13 = .ok (.istore_n 2, 1) := by decide +kernel
theorem d39_14 : decode K39.bytes 14 = .ok (.iload_n 2, 1) := by decide +kernel
theorem d39_15 : decode K39.bytes 15 = .ok (.ifCond .lt 28, 3) := by decide +kernel
theorem d39_18 : decode K39.bytes 18 = .ok (.aload_n 0, 1) := by decide +kernel
theorem d39_19 : decode K39.bytes 19 = .ok (.getfield 11, 3) := by decide +kernel
theorem d39_22 : decode K39.bytes 22 = .ok (.iload_n 2, 1) := by decide +kernel
theorem d39_23 : decode K39.bytes 23 = .ok (.dup2, 1) := by decide +kernel
theorem d39_24 : decode K39.bytes 24 = .ok (.laload, 1) := by decide +kernel
theorem d39_25 : decode K39.bytes 25 = .ok (.aload_n 1, 1) := by decide +kernel
theorem d39_26 : decode K39.bytes 26 = .ok (.getfield 11, 3) := by decide +kernel
theorem d39_29 : decode K39.bytes 29 = .ok (.iload_n 2, 1) := by decide +kernel
theorem d39_30 : decode K39.bytes 30 = .ok (.laload, 1) := by decide +kernel
theorem d39_31 : decode K39.bytes 31 = .ok (.ldc2_w 165, 3) := by decide +kernel
theorem d39_34 : decode K39.bytes 34 = .ok (.lxor, 1) := by decide +kernel
theorem d39_35 : decode K39.bytes 35 = .ok (.land, 1) := by decide +kernel
theorem d39_36 : decode K39.bytes 36 = .ok (.lastore, 1) := by decide +kernel
theorem d39_37 : decode K39.bytes 37 = .ok (.iinc 2 (-1), 3) := by decide +kernel
theorem d39_40 : decode K39.bytes 40 = .ok (.goto (-26), 3) := by decide +kernel
theorem d39_43 : decode K39.bytes 43 = .ok (.aload_n 0, 1) := by decide +kernel
theorem d39_44 : decode K39.bytes 44 = .ok (.invokevirtual 158, 3) := by decide +kernel
theorem d39_47 : decode K39.bytes 47 = .ok (.aload_n 0, 1) := by decide +kernel
theorem d39_48 : decode K39.bytes 48 = .ok (.invokevirtual 56, 3) := by decide +kernel
theorem d39_51 : decode K39.bytes 51 = .ok (.return_, 1) := by decide +kernel
theorem d40_0 : decode K40.bytes 0 = .ok (.aload_n 0, 1) := by decide +kernel
theorem d40_1 : decode K40.bytes 1 = .ok (.getfield 7, 3) := by decide +kernel
theorem d40_4 : decode K40.bytes 4 = .ok (.iconst 1, 1) := by decide +kernel
theorem d40_5 : decode K40.bytes 5 = .ok (.isub, 1) := by decide +kernel
theorem d40_6 : decode K40.bytes 6 = .ok (.istore_n 1, 1) := by decide +kernel
theorem d40_7 : decode K40.bytes 7 = .ok (.iload_n 1, 1) := by decide +kernel
theorem d40_8 : decode K40.bytes 8 = .ok (.ifCond .lt 23, 3) := by decide +kernel
theorem d40_11 : decode K40.bytes 11 = .ok (.aload_n 0, 1) := by decide +kernel
theorem d40_12 : decode K40.bytes 12 = .ok (.getfield 11, 3) := by decide +kernel
theorem d40_15 : decode K40.bytes 15 = .ok (.iload_n 1, 1) := by decide +kernel
theorem d40_16 : decode K40.bytes 16 = .ok (.laload, 1) := by decide +kernel
theorem d40_17 : decode K40.bytes 17 = .ok (.lconst 0, 1) := by decide +kernel
theorem d40_18 : decode K40.bytes 18 = .ok (.lcmp, 1) := by decide +kernel
theorem d40_19 : decode K40.bytes 19 = .ok (.ifCond .eq 6, 3) := by decide +kernel
theorem d40_22 : decode K40.bytes 22 = .ok (.goto 9, 3) := by decide +kernel
theorem d40_25 : decode K40.bytes 25 = .ok (.iinc 1 (-1), 3) := by decide +kernel
theorem d40_28 : decode K40.bytes 28 = .ok (.goto (-21), 3) := by decide +kernel
theorem d40_31 : decode K40.bytes 31 = .ok (.aload_n 0, 1) := by decide +kernel
theorem d40_32 : decode K40.bytes 32 = .ok (.iload_n 1, 1) := by decide +kernel
theorem d40_33 : decode K40.bytes 33 = .ok (.iconst 1, 1) := by decide +kernel
theorem d40_34 : decode K40.bytes 34 = .ok (.iadd, 1) := by decide +kernel
theorem d40_35 : decode K40.bytes 35 = .ok (.putfield 7, 3) := by decide +kernel
theorem d40_38 : decode K40.bytes 38 = .ok (.return_, 1) := by decide +kernel
theorem d41_0 : decode K41.bytes 0 = .ok (.aload_n 0, 1) := by decide +kernel
theorem d41_1 : decode K41.bytes 1 = .ok (.getfield 7, 3) := by decide +kernel
theorem d41_4 : decode K41.bytes 4 = .ok (.ireturn, 1) := by decide +kernel
theorem d42_0 : decode K42.bytes 0 = .ok (.iload_n 1, 1) := by decide +kernel
theorem d42_1 : decode K42.bytes 1 = .ok (.aload_n 0, 1) := by decide +kernel
theorem d42_2 : decode K42.bytes 2 = .ok (.arraylength, 1) := by decide +kernel
theorem d42_3 : decode K42.bytes 3 = .ok (.if_icmp .ne 11, 3) := by decide +kernel
theorem d42_14 : decode K42.bytes 14 = .ok (.iload_n 1, 1) := by decide +kernel
theorem d42_15 : decode K42.bytes 15 = .ok (.newarray .long, 2) := by decide +kernel
theorem d42_17 : decode K42.bytes 17 = .ok (.astore_n 2, 1) := by decide +kernel
theorem d42_18 : decode K42.bytes 18 = .ok (.aload_n 0, 1) := by decide +kernel
theorem d42_19 : decode K42.bytes 19 = .ok (.iconst 0, 1) := by decide +kernel
theorem d42_20 : decode K42.bytes 20 = .ok (.aload_n 2, 1) := by decide +kernel
theorem d42_21 : decode K42.bytes 21 = .ok (.iconst 0, 1) := by decide +kernel
theorem d42_22 : decode K42.bytes 22 = .ok (.aload_n 0, 1) := by decide +kernel
theorem d42_23 : decode K42.bytes 23 = .ok (.arraylength, 1) := by decide +kernel
theorem d42_24 : decode K42.bytes 24 = .ok (.iload_n 1, 1) := by decide +kernel
theorem d42_25 : decode K42.bytes 25 = .ok (.invokestatic 304, 3) := by decide +kernel
theorem d42_28 : decode K42.bytes 28 = .ok (.invokestatic 150, 3) := by decide +kernel
theorem d42_31 : decode K42.bytes 31 = .ok (.aload_n 2, 1) := by decide +kernel
theorem d42_32 : decode K42.bytes 32 = .ok (.areturn, 1) := by decide +kernel
theorem d43_0 : decode K43.bytes 0 = .ok (.aload_n 0, 1) := by decide +kernel
theorem d43_1 : decode K43.bytes 1 = .ok (.getfield 7, 3) := by decide +kernel
theorem d43_4 : decode K43.bytes 4 = .ok (.ifCond .ne 7, 3) := by decide +kernel
theorem d43_7 : decode K43.bytes 7 = .ok (.iconst 1, 1) := by decide +kernel
theorem d43_8 : decode K43.bytes 8 = .ok (.goto 4, 3) := by decide +kernel
theorem d43_11 : decode K43.bytes 11 = .ok (.iconst 0, 1) := by decide +kernel
theorem d43_12 : decode K43.bytes 12 = .ok (.ireturn, 1) := by decide +kernel
theorem d44_0 : decode K44.bytes 0 = .ok (.aload_n 0, 1) := by decide +kernel
theorem d44_1 : decode K44.bytes 1 = .ok (.getfield 7, 3) := by decide +kernel
theorem d44_4 : decode K44.bytes 4 = .ok (.arraylength, 1) := by decide +kernel
theorem d44_5 : decode K44.bytes 5 = .ok (.ifCond .ne 7, 3) := by decide +kernel
theorem d44_8 : decode K44.bytes 8 = .ok (.iconst 1, 1) := by decide +kernel
theorem d44_9 : decode K44.bytes 9 = .ok (.goto 4, 3) := by decide +kernel
theorem d44_13 : decode K44.bytes 13 = .ok (.ireturn, 1) := by decide +kernel
theorem own_sto {Z : State} {h : Heap} {a0 : Array Value} {b y : Addr} {n : Nat} {f : Nat → Value} (F : Af Z h b (.object OB) n f) (Ex : Exa Z h b OA) (w2 : (Cond.arrayOver (.object OB)).before a0 Z = true) (I : Ins Z h y OB true) : Sto Z h b (.ref y) := by
  obtain ⟨c, A, -, -⟩ := F
  obtain ⟨cell, kk, h1, h2, -⟩ := Ex
  cases A.1.symm.trans h1
  exact Sto.of A (own_ovr w2 h2) I
set_option maxRecDepth 65536 in
set_option maxHeartbeats 4000000 in
theorem rm3 (l : Launch) (Z : State) (a0 : Array Value) (hw : Hw a0 Z) (a : Addr)  (h0 : Heap) (n0 : Nat) (Z0 : n0 ≤ h0.size)  :
    Ct l Z K3 #[(.ref a)] h0 n0 (fun v h => v = none ∧ h = h0) := by
  refine Ct.of (Ls := #[.val (.ref a)]) (plainFor_of_name (by first | decide +kernel | (simp [plainName, overriddenIn]; done))) (fun m => by first | rfl | (simp [entryFrame, mkF, argsToLocals, Value.category]; done)) ?_
  intro E T W
  refine go_aloadN (pc' := 1) W d3_0 rfl rfl rfl ?_
  refine go_initO (pc' := 4) W (w18 hw) (w19 hw) (w20 hw) d3_1 rfl (nb rfl) (nb rfl) rfl ?_
  intro T1 W1
  exact go_retV W1 rfl d3_4 (nb rfl) (nb rfl) (⟨rfl, rfl⟩)
set_option maxRecDepth 65536 in
set_option maxHeartbeats 4000000 in
theorem rm31 (l : Launch) (Z : State) (a0 : Array Value) (hw : Hw a0 Z) (a : Addr)  (h0 : Heap) (n0 : Nat) (Z0 : n0 ≤ h0.size)  :
    Ct l Z K31 #[(.ref a)] h0 n0 (fun v h => v = none ∧ h = h0) := by
  refine Ct.of (Ls := #[.val (.ref a)]) (plainFor_of_name (by first | decide +kernel | (simp [plainName, overriddenIn]; done))) (fun m => by first | rfl | (simp [entryFrame, mkF, argsToLocals, Value.category]; done)) ?_
  intro E T W
  refine go_aloadN (pc' := 1) W d31_0 rfl rfl rfl ?_
  refine go_callN (a := a) (kc := K3) (argsL := []) (rest := []) (pc' := 4) W (w205 hw) (w13 hw) (w16 hw) (w17 hw) (rm3 E.l Z a0 hw a h0 n0 Z0) rfl rfl (by decide) pd0 rfl rfl rfl (nb rfl) (nb rfl) (nb rfl) (nb rfl) d31_1 rfl ?_
  rintro _ T2 h2 ⟨rfl, q2⟩ W2
  replace W2 := W2.sub q2
  show Go E _ (Fm E T2 4 #[.val (.ref a)] [])
  exact go_retV W2 rfl d31_4 (nb rfl) (nb rfl) (⟨rfl, rfl⟩)
set_option maxRecDepth 65536 in
set_option maxHeartbeats 4000000 in
theorem rm30 (l : Launch) (Z : State) (a0 : Array Value) (hw : Hw a0 Z) (a : Addr)  (h0 : Heap) (n0 : Nat) (Z0 : n0 ≤ h0.size)  :
    Ct l Z K30 #[(.ref a)] h0 n0 (fun v h => v = none ∧ h = h0) := by
  refine Ct.of (Ls := #[.val (.ref a)]) (plainFor_of_name (by first | decide +kernel | (simp [plainName, overriddenIn]; done))) (fun m => by first | rfl | (simp [entryFrame, mkF, argsToLocals, Value.category]; done)) ?_
  intro E T W
  refine go_aloadN (pc' := 1) W d30_0 rfl rfl rfl ?_
  refine go_callN (a := a) (kc := K31) (argsL := []) (rest := []) (pc' := 4) W (w199 hw) (w200 hw) (w203 hw) (w204 hw) (rm31 E.l Z a0 hw a h0 n0 Z0) rfl rfl (by decide) pd0 rfl rfl rfl (nb rfl) (nb rfl) (nb rfl) (nb rfl) d30_1 rfl ?_
  rintro _ T3 h3 ⟨rfl, q3⟩ W3
  replace W3 := W3.sub q3
  show Go E _ (Fm E T3 4 #[.val (.ref a)] [])
  exact go_retV W3 rfl d30_4 (nb rfl) (nb rfl) (⟨rfl, rfl⟩)
set_option maxRecDepth 65536 in
set_option maxHeartbeats 4000000 in
theorem rm14 (l : Launch) (Z : State) (a0 : Array Value) (hw : Hw a0 Z) (a : Addr)  (h0 : Heap) (n0 : Nat) (Z0 : n0 ≤ h0.size)  :
    Ct l Z K14 #[(.ref a)] h0 n0 (fun v h => v = none ∧ h = h0) := by
  refine Ct.of (Ls := #[.val (.ref a)]) (plainFor_of_name (by first | decide +kernel | (simp [plainName, overriddenIn]; done))) (fun m => by first | rfl | (simp [entryFrame, mkF, argsToLocals, Value.category]; done)) ?_
  intro E T W
  refine go_aloadN (pc' := 1) W d14_0 rfl rfl rfl ?_
  refine go_initO (pc' := 4) W (w84 hw) (w19 hw) (w20 hw) d14_1 rfl (nb rfl) (nb rfl) rfl ?_
  intro T4 W4
  exact go_retV W4 rfl d14_4 (nb rfl) (nb rfl) (⟨rfl, rfl⟩)
set_option maxRecDepth 65536 in
set_option maxHeartbeats 4000000 in
theorem rmL8_63 (l : Launch) (Z : State) (a0 : Array Value) (hw : Hw a0 Z)   (h0 : Heap) (n0 : Nat) (Z0 : n0 ≤ h0.size)  :
    Ct l Z K8 #[(.int (63 : Int32))] h0 n0 (fun v h => v = some (.int 0) ∧ h = h0) := by
  refine Ct.of (Ls := #[.val (.int (63 : Int32))]) (plainFor_of_name (by first | decide +kernel | (simp [plainName, overriddenIn]; done))) (fun m => by first | rfl | (simp [entryFrame, mkF, argsToLocals, Value.category]; done)) ?_
  intro E T W
  refine go_iloadN (pc' := 1) W d8_0 rfl rfl ?_
  refine go_bipush (pc' := 3) (z := 6) W d8_1 (by decide) rfl ?_
  refine go_ishr (pc' := 4) W d8_3 rfl ?_
  exact go_retI W (t := .int) rfl (by simp) rfl d8_4 (nb rfl) (nb rfl) (⟨congrArg (fun z => some (Value.int z)) (by decide), rfl⟩)
set_option maxRecDepth 65536 in
set_option maxHeartbeats 4000000 in
theorem rmL8_0 (l : Launch) (Z : State) (a0 : Array Value) (hw : Hw a0 Z)   (h0 : Heap) (n0 : Nat) (Z0 : n0 ≤ h0.size)  :
    Ct l Z K8 #[(.int (0 : Int32))] h0 n0 (fun v h => v = some (.int 0) ∧ h = h0) := by
  refine Ct.of (Ls := #[.val (.int (0 : Int32))]) (plainFor_of_name (by first | decide +kernel | (simp [plainName, overriddenIn]; done))) (fun m => by first | rfl | (simp [entryFrame, mkF, argsToLocals, Value.category]; done)) ?_
  intro E T W
  refine go_iloadN (pc' := 1) W d8_0 rfl rfl ?_
  refine go_bipush (pc' := 3) (z := 6) W d8_1 (by decide) rfl ?_
  refine go_ishr (pc' := 4) W d8_3 rfl ?_
  exact go_retI W (t := .int) rfl (by simp) rfl d8_4 (nb rfl) (nb rfl) (⟨congrArg (fun z => some (Value.int z)) (by decide), rfl⟩)
set_option maxRecDepth 65536 in
set_option maxHeartbeats 4000000 in
theorem rmL8_1 (l : Launch) (Z : State) (a0 : Array Value) (hw : Hw a0 Z)   (h0 : Heap) (n0 : Nat) (Z0 : n0 ≤ h0.size)  :
    Ct l Z K8 #[(.int (1 : Int32))] h0 n0 (fun v h => v = some (.int 0) ∧ h = h0) := by
  refine Ct.of (Ls := #[.val (.int (1 : Int32))]) (plainFor_of_name (by first | decide +kernel | (simp [plainName, overriddenIn]; done))) (fun m => by first | rfl | (simp [entryFrame, mkF, argsToLocals, Value.category]; done)) ?_
  intro E T W
  refine go_iloadN (pc' := 1) W d8_0 rfl rfl ?_
  refine go_bipush (pc' := 3) (z := 6) W d8_1 (by decide) rfl ?_
  refine go_ishr (pc' := 4) W d8_3 rfl ?_
  exact go_retI W (t := .int) rfl (by simp) rfl d8_4 (nb rfl) (nb rfl) (⟨congrArg (fun z => some (Value.int z)) (by decide), rfl⟩)
set_option maxRecDepth 65536 in
set_option maxHeartbeats 4000000 in
theorem rmL8_5 (l : Launch) (Z : State) (a0 : Array Value) (hw : Hw a0 Z)   (h0 : Heap) (n0 : Nat) (Z0 : n0 ≤ h0.size)  :
    Ct l Z K8 #[(.int (5 : Int32))] h0 n0 (fun v h => v = some (.int 0) ∧ h = h0) := by
  refine Ct.of (Ls := #[.val (.int (5 : Int32))]) (plainFor_of_name (by first | decide +kernel | (simp [plainName, overriddenIn]; done))) (fun m => by first | rfl | (simp [entryFrame, mkF, argsToLocals, Value.category]; done)) ?_
  intro E T W
  refine go_iloadN (pc' := 1) W d8_0 rfl rfl ?_
  refine go_bipush (pc' := 3) (z := 6) W d8_1 (by decide) rfl ?_
  refine go_ishr (pc' := 4) W d8_3 rfl ?_
  exact go_retI W (t := .int) rfl (by simp) rfl d8_4 (nb rfl) (nb rfl) (⟨congrArg (fun z => some (Value.int z)) (by decide), rfl⟩)
set_option maxRecDepth 65536 in
set_option maxHeartbeats 4000000 in
theorem rmL8_70 (l : Launch) (Z : State) (a0 : Array Value) (hw : Hw a0 Z)   (h0 : Heap) (n0 : Nat) (Z0 : n0 ≤ h0.size)  :
    Ct l Z K8 #[(.int (70 : Int32))] h0 n0 (fun v h => v = some (.int 1) ∧ h = h0) := by
  refine Ct.of (Ls := #[.val (.int (70 : Int32))]) (plainFor_of_name (by first | decide +kernel | (simp [plainName, overriddenIn]; done))) (fun m => by first | rfl | (simp [entryFrame, mkF, argsToLocals, Value.category]; done)) ?_
  intro E T W
  refine go_iloadN (pc' := 1) W d8_0 rfl rfl ?_
  refine go_bipush (pc' := 3) (z := 6) W d8_1 (by decide) rfl ?_
  refine go_ishr (pc' := 4) W d8_3 rfl ?_
  exact go_retI W (t := .int) rfl (by simp) rfl d8_4 (nb rfl) (nb rfl) (⟨congrArg (fun z => some (Value.int z)) (by decide), rfl⟩)
set_option maxRecDepth 65536 in
set_option maxHeartbeats 4000000 in
theorem rmL19_2_2 (l : Launch) (Z : State) (a0 : Array Value) (hw : Hw a0 Z)   (h0 : Heap) (n0 : Nat) (Z0 : n0 ≤ h0.size)  :
    Ct l Z K19 #[(.int (2 : Int32)), (.int (2 : Int32))] h0 n0 (fun v h => v = some (.int 2) ∧ h = h0) := by
  refine Ct.of (Ls := #[.val (.int (2 : Int32)), .val (.int (2 : Int32))]) (Jvm.Free.JP.mathPlain rfl (by decide +kernel)) (fun m => by first | rfl | (simp [entryFrame, mkF, argsToLocals, Value.category]; done)) ?_
  intro E T W
  refine go_iloadN (pc' := 1) W d19_0 rfl rfl ?_
  refine go_iloadN (pc' := 2) W d19_1 rfl rfl ?_
  refine go_icmp_lt (pt := 9) (pf := 5) W d19_2 (by decide) rfl rfl (fun c2_5 => ?_) (fun c2_5 => ?_)
  · exact absurd c2_5 (by decide)
  · -- pc 2 not taken
    refine go_iloadN (pc' := 6) W d19_5 rfl rfl ?_
    refine go_goto (pc' := 10) W d19_6 (by decide) rfl ?_
    exact go_retI W (t := .int) rfl (by simp) rfl d19_10 (nb rfl) (nb rfl) (⟨congrArg (fun z => some (Value.int z)) (by decide), rfl⟩)
set_option maxRecDepth 65536 in
set_option maxHeartbeats 4000000 in
theorem rmL19_10_1 (l : Launch) (Z : State) (a0 : Array Value) (hw : Hw a0 Z)   (h0 : Heap) (n0 : Nat) (Z0 : n0 ≤ h0.size)  :
    Ct l Z K19 #[(.int (10 : Int32)), (.int (1 : Int32))] h0 n0 (fun v h => v = some (.int 10) ∧ h = h0) := by
  refine Ct.of (Ls := #[.val (.int (10 : Int32)), .val (.int (1 : Int32))]) (Jvm.Free.JP.mathPlain rfl (by decide +kernel)) (fun m => by first | rfl | (simp [entryFrame, mkF, argsToLocals, Value.category]; done)) ?_
  intro E T W
  refine go_iloadN (pc' := 1) W d19_0 rfl rfl ?_
  refine go_iloadN (pc' := 2) W d19_1 rfl rfl ?_
  refine go_icmp_lt (pt := 9) (pf := 5) W d19_2 (by decide) rfl rfl (fun c2_6 => ?_) (fun c2_6 => ?_)
  · exact absurd c2_6 (by decide)
  · -- pc 2 not taken
    refine go_iloadN (pc' := 6) W d19_5 rfl rfl ?_
    refine go_goto (pc' := 10) W d19_6 (by decide) rfl ?_
    exact go_retI W (t := .int) rfl (by simp) rfl d19_10 (nb rfl) (nb rfl) (⟨congrArg (fun z => some (Value.int z)) (by decide), rfl⟩)
set_option maxRecDepth 65536 in
set_option maxHeartbeats 4000000 in
theorem rmL27_1_2 (l : Launch) (Z : State) (a0 : Array Value) (hw : Hw a0 Z)   (h0 : Heap) (n0 : Nat) (Z0 : n0 ≤ h0.size)  :
    Ct l Z K27 #[(.int (1 : Int32)), (.int (2 : Int32))] h0 n0 (fun v h => v = some (.int 1) ∧ h = h0) := by
  refine Ct.of (Ls := #[.val (.int (1 : Int32)), .val (.int (2 : Int32))]) (Jvm.Free.JP.mathPlain rfl (by decide +kernel)) (fun m => by first | rfl | (simp [entryFrame, mkF, argsToLocals, Value.category]; done)) ?_
  intro E T W
  refine go_iloadN (pc' := 1) W d27_0 rfl rfl ?_
  refine go_iloadN (pc' := 2) W d27_1 rfl rfl ?_
  refine go_icmp_gt (pt := 9) (pf := 5) W d27_2 (by decide) rfl rfl (fun c2_7 => ?_) (fun c2_7 => ?_)
  · exact absurd c2_7 (by decide)
  · -- pc 2 not taken
    refine go_iloadN (pc' := 6) W d27_5 rfl rfl ?_
    refine go_goto (pc' := 10) W d27_6 (by decide) rfl ?_
    exact go_retI W (t := .int) rfl (by simp) rfl d27_10 (nb rfl) (nb rfl) (⟨congrArg (fun z => some (Value.int z)) (by decide), rfl⟩)
set_option maxRecDepth 65536 in
set_option maxHeartbeats 4000000 in
theorem rmL27_10_2 (l : Launch) (Z : State) (a0 : Array Value) (hw : Hw a0 Z)   (h0 : Heap) (n0 : Nat) (Z0 : n0 ≤ h0.size)  :
    Ct l Z K27 #[(.int (10 : Int32)), (.int (2 : Int32))] h0 n0 (fun v h => v = some (.int 2) ∧ h = h0) := by
  refine Ct.of (Ls := #[.val (.int (10 : Int32)), .val (.int (2 : Int32))]) (Jvm.Free.JP.mathPlain rfl (by decide +kernel)) (fun m => by first | rfl | (simp [entryFrame, mkF, argsToLocals, Value.category]; done)) ?_
  intro E T W
  refine go_iloadN (pc' := 1) W d27_0 rfl rfl ?_
  refine go_iloadN (pc' := 2) W d27_1 rfl rfl ?_
  refine go_icmp_gt (pt := 9) (pf := 5) W d27_2 (by decide) rfl rfl (fun c2_8 => ?_) (fun c2_8 => ?_)
  · -- pc 2 taken
    refine go_iloadN (pc' := 10) W d27_9 rfl rfl ?_
    exact go_retI W (t := .int) rfl (by simp) rfl d27_10 (nb rfl) (nb rfl) (⟨congrArg (fun z => some (Value.int z)) (by decide), rfl⟩)
  · exact absurd c2_8 (by decide)
set_option maxRecDepth 65536 in
set_option maxHeartbeats 4000000 in
theorem rmL27_0_0 (l : Launch) (Z : State) (a0 : Array Value) (hw : Hw a0 Z)   (h0 : Heap) (n0 : Nat) (Z0 : n0 ≤ h0.size)  :
    Ct l Z K27 #[(.int (0 : Int32)), (.int (0 : Int32))] h0 n0 (fun v h => v = some (.int 0) ∧ h = h0) := by
  refine Ct.of (Ls := #[.val (.int (0 : Int32)), .val (.int (0 : Int32))]) (Jvm.Free.JP.mathPlain rfl (by decide +kernel)) (fun m => by first | rfl | (simp [entryFrame, mkF, argsToLocals, Value.category]; done)) ?_
  intro E T W
  refine go_iloadN (pc' := 1) W d27_0 rfl rfl ?_
  refine go_iloadN (pc' := 2) W d27_1 rfl rfl ?_
  refine go_icmp_gt (pt := 9) (pf := 5) W d27_2 (by decide) rfl rfl (fun c2_9 => ?_) (fun c2_9 => ?_)
  · exact absurd c2_9 (by decide)
  · -- pc 2 not taken
    refine go_iloadN (pc' := 6) W d27_5 rfl rfl ?_
    refine go_goto (pc' := 10) W d27_6 (by decide) rfl ?_
    exact go_retI W (t := .int) rfl (by simp) rfl d27_10 (nb rfl) (nb rfl) (⟨congrArg (fun z => some (Value.int z)) (by decide), rfl⟩)
set_option maxRecDepth 65536 in
set_option maxHeartbeats 4000000 in
theorem rmL27_0_1 (l : Launch) (Z : State) (a0 : Array Value) (hw : Hw a0 Z)   (h0 : Heap) (n0 : Nat) (Z0 : n0 ≤ h0.size)  :
    Ct l Z K27 #[(.int (0 : Int32)), (.int (1 : Int32))] h0 n0 (fun v h => v = some (.int 0) ∧ h = h0) := by
  refine Ct.of (Ls := #[.val (.int (0 : Int32)), .val (.int (1 : Int32))]) (Jvm.Free.JP.mathPlain rfl (by decide +kernel)) (fun m => by first | rfl | (simp [entryFrame, mkF, argsToLocals, Value.category]; done)) ?_
  intro E T W
  refine go_iloadN (pc' := 1) W d27_0 rfl rfl ?_
  refine go_iloadN (pc' := 2) W d27_1 rfl rfl ?_
  refine go_icmp_gt (pt := 9) (pf := 5) W d27_2 (by decide) rfl rfl (fun c2_10 => ?_) (fun c2_10 => ?_)
  · exact absurd c2_10 (by decide)
  · -- pc 2 not taken
    refine go_iloadN (pc' := 6) W d27_5 rfl rfl ?_
    refine go_goto (pc' := 10) W d27_6 (by decide) rfl ?_
    exact go_retI W (t := .int) rfl (by simp) rfl d27_10 (nb rfl) (nb rfl) (⟨congrArg (fun z => some (Value.int z)) (by decide), rfl⟩)
set_option maxRecDepth 65536 in
set_option maxHeartbeats 4000000 in
theorem rmL27_0_2 (l : Launch) (Z : State) (a0 : Array Value) (hw : Hw a0 Z)   (h0 : Heap) (n0 : Nat) (Z0 : n0 ≤ h0.size)  :
    Ct l Z K27 #[(.int (0 : Int32)), (.int (2 : Int32))] h0 n0 (fun v h => v = some (.int 0) ∧ h = h0) := by
  refine Ct.of (Ls := #[.val (.int (0 : Int32)), .val (.int (2 : Int32))]) (Jvm.Free.JP.mathPlain rfl (by decide +kernel)) (fun m => by first | rfl | (simp [entryFrame, mkF, argsToLocals, Value.category]; done)) ?_
  intro E T W
  refine go_iloadN (pc' := 1) W d27_0 rfl rfl ?_
  refine go_iloadN (pc' := 2) W d27_1 rfl rfl ?_
  refine go_icmp_gt (pt := 9) (pf := 5) W d27_2 (by decide) rfl rfl (fun c2_11 => ?_) (fun c2_11 => ?_)
  · exact absurd c2_11 (by decide)
  · -- pc 2 not taken
    refine go_iloadN (pc' := 6) W d27_5 rfl rfl ?_
    refine go_goto (pc' := 10) W d27_6 (by decide) rfl ?_
    exact go_retI W (t := .int) rfl (by simp) rfl d27_10 (nb rfl) (nb rfl) (⟨congrArg (fun z => some (Value.int z)) (by decide), rfl⟩)
set_option maxRecDepth 65536 in
set_option maxHeartbeats 4000000 in
theorem rmL27_1_0 (l : Launch) (Z : State) (a0 : Array Value) (hw : Hw a0 Z)   (h0 : Heap) (n0 : Nat) (Z0 : n0 ≤ h0.size)  :
    Ct l Z K27 #[(.int (1 : Int32)), (.int (0 : Int32))] h0 n0 (fun v h => v = some (.int 0) ∧ h = h0) := by
  refine Ct.of (Ls := #[.val (.int (1 : Int32)), .val (.int (0 : Int32))]) (Jvm.Free.JP.mathPlain rfl (by decide +kernel)) (fun m => by first | rfl | (simp [entryFrame, mkF, argsToLocals, Value.category]; done)) ?_
  intro E T W
  refine go_iloadN (pc' := 1) W d27_0 rfl rfl ?_
  refine go_iloadN (pc' := 2) W d27_1 rfl rfl ?_
  refine go_icmp_gt (pt := 9) (pf := 5) W d27_2 (by decide) rfl rfl (fun c2_12 => ?_) (fun c2_12 => ?_)
  · -- pc 2 taken
    refine go_iloadN (pc' := 10) W d27_9 rfl rfl ?_
    exact go_retI W (t := .int) rfl (by simp) rfl d27_10 (nb rfl) (nb rfl) (⟨congrArg (fun z => some (Value.int z)) (by decide), rfl⟩)
  · exact absurd c2_12 (by decide)
set_option maxRecDepth 65536 in
set_option maxHeartbeats 4000000 in
theorem rmL27_1_1 (l : Launch) (Z : State) (a0 : Array Value) (hw : Hw a0 Z)   (h0 : Heap) (n0 : Nat) (Z0 : n0 ≤ h0.size)  :
    Ct l Z K27 #[(.int (1 : Int32)), (.int (1 : Int32))] h0 n0 (fun v h => v = some (.int 1) ∧ h = h0) := by
  refine Ct.of (Ls := #[.val (.int (1 : Int32)), .val (.int (1 : Int32))]) (Jvm.Free.JP.mathPlain rfl (by decide +kernel)) (fun m => by first | rfl | (simp [entryFrame, mkF, argsToLocals, Value.category]; done)) ?_
  intro E T W
  refine go_iloadN (pc' := 1) W d27_0 rfl rfl ?_
  refine go_iloadN (pc' := 2) W d27_1 rfl rfl ?_
  refine go_icmp_gt (pt := 9) (pf := 5) W d27_2 (by decide) rfl rfl (fun c2_13 => ?_) (fun c2_13 => ?_)
  · exact absurd c2_13 (by decide)
  · -- pc 2 not taken
    refine go_iloadN (pc' := 6) W d27_5 rfl rfl ?_
    refine go_goto (pc' := 10) W d27_6 (by decide) rfl ?_
    exact go_retI W (t := .int) rfl (by simp) rfl d27_10 (nb rfl) (nb rfl) (⟨congrArg (fun z => some (Value.int z)) (by decide), rfl⟩)
set_option maxRecDepth 65536 in
set_option maxHeartbeats 4000000 in
theorem rmL27_2_0 (l : Launch) (Z : State) (a0 : Array Value) (hw : Hw a0 Z)   (h0 : Heap) (n0 : Nat) (Z0 : n0 ≤ h0.size)  :
    Ct l Z K27 #[(.int (2 : Int32)), (.int (0 : Int32))] h0 n0 (fun v h => v = some (.int 0) ∧ h = h0) := by
  refine Ct.of (Ls := #[.val (.int (2 : Int32)), .val (.int (0 : Int32))]) (Jvm.Free.JP.mathPlain rfl (by decide +kernel)) (fun m => by first | rfl | (simp [entryFrame, mkF, argsToLocals, Value.category]; done)) ?_
  intro E T W
  refine go_iloadN (pc' := 1) W d27_0 rfl rfl ?_
  refine go_iloadN (pc' := 2) W d27_1 rfl rfl ?_
  refine go_icmp_gt (pt := 9) (pf := 5) W d27_2 (by decide) rfl rfl (fun c2_14 => ?_) (fun c2_14 => ?_)
  · -- pc 2 taken
    refine go_iloadN (pc' := 10) W d27_9 rfl rfl ?_
    exact go_retI W (t := .int) rfl (by simp) rfl d27_10 (nb rfl) (nb rfl) (⟨congrArg (fun z => some (Value.int z)) (by decide), rfl⟩)
  · exact absurd c2_14 (by decide)
set_option maxRecDepth 65536 in
set_option maxHeartbeats 4000000 in
theorem rmL27_2_1 (l : Launch) (Z : State) (a0 : Array Value) (hw : Hw a0 Z)   (h0 : Heap) (n0 : Nat) (Z0 : n0 ≤ h0.size)  :
    Ct l Z K27 #[(.int (2 : Int32)), (.int (1 : Int32))] h0 n0 (fun v h => v = some (.int 1) ∧ h = h0) := by
  refine Ct.of (Ls := #[.val (.int (2 : Int32)), .val (.int (1 : Int32))]) (Jvm.Free.JP.mathPlain rfl (by decide +kernel)) (fun m => by first | rfl | (simp [entryFrame, mkF, argsToLocals, Value.category]; done)) ?_
  intro E T W
  refine go_iloadN (pc' := 1) W d27_0 rfl rfl ?_
  refine go_iloadN (pc' := 2) W d27_1 rfl rfl ?_
  refine go_icmp_gt (pt := 9) (pf := 5) W d27_2 (by decide) rfl rfl (fun c2_15 => ?_) (fun c2_15 => ?_)
  · -- pc 2 taken
    refine go_iloadN (pc' := 10) W d27_9 rfl rfl ?_
    exact go_retI W (t := .int) rfl (by simp) rfl d27_10 (nb rfl) (nb rfl) (⟨congrArg (fun z => some (Value.int z)) (by decide), rfl⟩)
  · exact absurd c2_15 (by decide)
set_option maxRecDepth 65536 in
set_option maxHeartbeats 4000000 in
theorem rmL27_2_2 (l : Launch) (Z : State) (a0 : Array Value) (hw : Hw a0 Z)   (h0 : Heap) (n0 : Nat) (Z0 : n0 ≤ h0.size)  :
    Ct l Z K27 #[(.int (2 : Int32)), (.int (2 : Int32))] h0 n0 (fun v h => v = some (.int 2) ∧ h = h0) := by
  refine Ct.of (Ls := #[.val (.int (2 : Int32)), .val (.int (2 : Int32))]) (Jvm.Free.JP.mathPlain rfl (by decide +kernel)) (fun m => by first | rfl | (simp [entryFrame, mkF, argsToLocals, Value.category]; done)) ?_
  intro E T W
  refine go_iloadN (pc' := 1) W d27_0 rfl rfl ?_
  refine go_iloadN (pc' := 2) W d27_1 rfl rfl ?_
  refine go_icmp_gt (pt := 9) (pf := 5) W d27_2 (by decide) rfl rfl (fun c2_16 => ?_) (fun c2_16 => ?_)
  · exact absurd c2_16 (by decide)
  · -- pc 2 not taken
    refine go_iloadN (pc' := 6) W d27_5 rfl rfl ?_
    refine go_goto (pc' := 10) W d27_6 (by decide) rfl ?_
    exact go_retI W (t := .int) rfl (by simp) rfl d27_10 (nb rfl) (nb rfl) (⟨congrArg (fun z => some (Value.int z)) (by decide), rfl⟩)
set_option maxRecDepth 65536 in
set_option maxHeartbeats 4000000 in
theorem rm2 (l : Launch) (Z : State) (a0 : Array Value) (hw : Hw a0 Z) (a : Addr)  (h0 : Heap) (n0 : Nat) (Z0 : n0 ≤ h0.size) (Ea : Exa Z h0 a "java/util/ArrayList") (F0 : Fld Z h0 a "java/util/AbstractList" "modCount" "I" (.int (0 : Int32))) (F1 : Fld Z h0 a "java/util/ArrayList" "elementData" "[Ljava/lang/Object;" .null) (F2 : Fld Z h0 a "java/util/ArrayList" "size" "I" (.int (0 : Int32))) (ga : n0 ≤ a)  :
    Ct l Z K2 #[(.ref a)] h0 n0 (fun v h => v = none ∧ Keep h0 h [a] ∧ Fld Z h a "java/util/AbstractList" "modCount" "I" (.int (0 : Int32)) ∧ Fld Z h a "java/util/ArrayList" "elementData" "[Ljava/lang/Object;" .null ∧ Fld Z h a "java/util/ArrayList" "size" "I" (.int (0 : Int32))) := by
  refine Ct.of (Ls := #[.val (.ref a)]) (plainFor_of_name (by first | decide +kernel | (simp [plainName, overriddenIn]; done))) (fun m => by first | rfl | (simp [entryFrame, mkF, argsToLocals, Value.category]; done)) ?_
  intro E T W
  refine go_aloadN (pc' := 1) W d2_0 rfl rfl rfl ?_
  refine go_callN (a := a) (kc := K3) (argsL := []) (rest := []) (pc' := 4) W (w12 hw) (w13 hw) (w16 hw) (w17 hw) (rm3 E.l Z a0 hw a h0 n0 Z0) rfl rfl (by decide) pd0 rfl rfl rfl (nb rfl) (nb rfl) (nb rfl) (nb rfl) d2_1 rfl ?_
  rintro _ T17 h17 ⟨rfl, q17⟩ W17
  replace W17 := W17.sub q17
  show Go E _ (Fm E T17 4 #[.val (.ref a)] [])
  refine go_aloadN (pc' := 5) W17 d2_4 rfl rfl rfl ?_
  refine go_iconst (pc' := 6) (z := 0) W17 d2_5 rfl rfl ?_
  refine go_putF (pc' := 9) W17 (host := "") (Or.inl (w21 hw)) Via.refl F0 Ea (Or.inl (w22 hw)) (w1 hw) (ty := .int) (by decide) rfl rfl ga d2_6 rfl ?_
  intro T18 h18 W18 R18
  have f19 := Ea.wr R18
  have f20 := F0.same R18
  have f21 := F1.other R18 (Or.inr (slot_ne (Or.inl (w25 hw)) (Or.inl (w22 hw)) (by decide) (t := (.array (.object "java/lang/Object"))) (t' := .int) (by decide) (by decide)))
  have f22 := F2.other R18 (Or.inr (slot_ne (Or.inl (w97 hw)) (Or.inl (w22 hw)) (by decide) (t := .int) (t' := .int) (by decide) (by decide)))
  have k23 := (Keep.refl h0 [a]).wr R18 (Or.inl (by simp))
  have z24 := Nat.le_trans Z0 (Keep.of_wr R18).1
  exact go_retV W18 rfl d2_9 (nb rfl) (nb rfl) (⟨rfl, k23, f20, f21, f22⟩)
set_option maxRecDepth 65536 in
set_option maxHeartbeats 4000000 in
theorem rm1 (l : Launch) (Z : State) (a0 : Array Value) (hw : Hw a0 Z) (a : Addr) (de : Addr) (h0 : Heap) (n0 : Nat) (Z0 : n0 ≤ h0.size) (Ea : Exa Z h0 a "java/util/ArrayList") (F0 : Fld Z h0 a "java/util/AbstractList" "modCount" "I" (.int (0 : Int32))) (F1 : Fld Z h0 a "java/util/ArrayList" "elementData" "[Ljava/lang/Object;" .null) (F2 : Fld Z h0 a "java/util/ArrayList" "size" "I" (.int (0 : Int32))) (ga : n0 ≤ a) (Sd : Sta Z h0 "java/util/ArrayList" "DEFAULTCAPACITY_EMPTY_ELEMENTDATA" "[Ljava/lang/Object;" (.ref de)) :
    Ct l Z K1 #[(.ref a)] h0 n0 (fun v h => v = none ∧ Keep h0 h [a] ∧ Fld Z h a "java/util/AbstractList" "modCount" "I" (.int (0 : Int32)) ∧ Fld Z h a "java/util/ArrayList" "elementData" "[Ljava/lang/Object;" (.ref de) ∧ Fld Z h a "java/util/ArrayList" "size" "I" (.int (0 : Int32))) := by
  refine Ct.of (Ls := #[.val (.ref a)]) (plainFor_of_name (by first | decide +kernel | (simp [plainName, overriddenIn]; done))) (fun m => by first | rfl | (simp [entryFrame, mkF, argsToLocals, Value.category]; done)) ?_
  intro E T W
  refine go_aloadN (pc' := 1) W d1_0 rfl rfl rfl ?_
  refine go_callN (a := a) (kc := K2) (argsL := []) (rest := []) (pc' := 4) W (w6 hw) (w7 hw) (w10 hw) (w11 hw) (rm2 E.l Z a0 hw a  h0 n0 Z0 Ea F0 F1 F2 ga ) rfl rfl (by decide) pd0 rfl rfl rfl (nb rfl) (nb rfl) (nb rfl) (nb rfl) d1_1 rfl ?_
  rintro _ T25 h25 ⟨rfl, K25, g25_0, g25_1, g25_2⟩ W25
  have f26 := Ea.keep K25
  have k30 := (Keep.refl h0 [a]).trans K25 (allS (Or.inl (by simp)) all0)
  have z31 := Nat.le_trans Z0 K25.1
  have f32 := Sta.keepN Sd K25 (allS (Ns.exa Ea) all0)
  show Go E _ (Fm E T25 4 #[.val (.ref a)] [])
  refine go_aloadN (pc' := 5) W25 d1_4 rfl rfl rfl ?_
  refine go_getS (pc' := 8) W25 (host := "") (Or.inl (w23 hw)) Via.refl f32 d1_5 rfl ?_
  intro T33 W33
  refine go_putF (pc' := 11) W33 (host := "") (Or.inl (w24 hw)) Via.refl g25_1 f26 (Or.inl (w25 hw)) (w1 hw) (ty := (.array (.object "java/lang/Object"))) (by decide) rfl rfl ga d1_8 rfl ?_
  intro T34 h34 W34 R34
  have f35 := f26.wr R34
  have f36 := f32.wr R34
  have f37 := g25_0.other R34 (Or.inr (slot_ne (Or.inl (w22 hw)) (Or.inl (w25 hw)) (by decide) (t := .int) (t' := (.array (.object "java/lang/Object"))) (by decide) (by decide)))
  have f38 := g25_1.same R34
  have f39 := g25_2.other R34 (Or.inr (slot_ne (Or.inl (w97 hw)) (Or.inl (w25 hw)) (by decide) (t := .int) (t' := (.array (.object "java/lang/Object"))) (by decide) (by decide)))
  have k40 := k30.wr R34 (Or.inl (by simp))
  have z41 := Nat.le_trans z31 (Keep.of_wr R34).1
  exact go_retV W34 rfl d1_11 (nb rfl) (nb rfl) (⟨rfl, k40, f37, f38, f39⟩)
set_option maxRecDepth 65536 in
set_option maxHeartbeats 4000000 in
theorem rm7 (l : Launch) (Z : State) (a0 : Array Value) (hw : Hw a0 Z) (b : Addr)  (h0 : Heap) (n0 : Nat) (Z0 : n0 ≤ h0.size) (Ea : Exa Z h0 b "java/util/BitSet") (F0 : Fld Z h0 b "java/util/BitSet" "words" "[J" .null) (F1 : Fld Z h0 b "java/util/BitSet" "wordsInUse" "I" (.int (0 : Int32))) (F2 : Fld Z h0 b "java/util/BitSet" "sizeIsSticky" "Z" (.int (0 : Int32))) (ga : n0 ≤ b) :
    Ct l Z K7 #[(.ref b), (.int (64 : Int32))] h0 n0 (fun v h => ∃ x : Addr, v = none ∧ n0 ≤ x ∧ h0.size ≤ x ∧ Keep h0 h [b] ∧ Fld Z h b "java/util/BitSet" "words" "[J" (.ref x) ∧ Fld Z h b "java/util/BitSet" "wordsInUse" "I" (.int (0 : Int32)) ∧ Fld Z h b "java/util/BitSet" "sizeIsSticky" "Z" (.int (0 : Int32)) ∧ Af Z h x .long 1 (fun _ => (.long (0 : Int64)))) := by
  refine Ct.of (Ls := #[.val (.ref b), .val (.int (64 : Int32))]) (plainFor_of_name (by first | decide +kernel | (simp [plainName, overriddenIn]; done))) (fun m => by first | rfl | (simp [entryFrame, mkF, argsToLocals, Value.category]; done)) ?_
  intro E T W
  refine go_aloadN (pc' := 1) W d7_0 rfl rfl rfl ?_
  refine go_iloadN (pc' := 2) W d7_1 rfl rfl ?_
  refine go_iconst (pc' := 3) (z := 1) W d7_2 rfl rfl ?_
  refine go_isubZ (pc' := 4) (z := 63) W d7_3 (by decide) rfl ?_
  refine go_callS (kc := K8) (argsL := [(.int (63 : Int32))]) (rest := [(.ref b)]) (pc' := 7) W (w49 hw) (w50 hw) (w35 hw) (w51 hw) (rmL8_63 E.l Z a0 hw h0 n0 Z0) (by decide) pd1 rfl rfl rfl (nb rfl) (nb rfl) (nb rfl) (nb rfl) d7_4 rfl ?_
  rintro _ T42 h42 ⟨rfl, q42⟩ W42
  replace W42 := W42.sub q42
  show Go E _ (Fm E T42 7 #[.val (.ref b), .val (.int (64 : Int32))] [(.int (0 : Int32)), (.ref b)])
  refine go_iconst (pc' := 8) (z := 1) W42 d7_7 rfl rfl ?_
  refine go_iaddZ (pc' := 9) (z := 1) W42 d7_8 (by decide) rfl ?_
  refine go_newP (pc' := 11) (aty := .long) W42 (w52 hw) d7_9 (by decide) 1 (by decide) (by decide) (nb rfl) (nb rfl) rfl ?_
  intro T43 h43 cA43 b43 g43 W43 E43 A43
  have ne44 : b ≠ b43 := by rw [g43]; exact Nat.ne_of_lt Ea.lt
  have ge45 : n0 ≤ b43 := by rw [g43]; exact Z0
  have old46 : h0.size ≤ b43 := by rw [g43]; exact (Keep.refl h0 [b]).1
  have f47 := Ea.ext E43
  have f48 := F0.ext E43
  have f49 := F1.ext E43
  have f50 := F2.ext E43
  have k51 := (Keep.refl h0 [b]).ext E43
  have z52 := Nat.le_trans Z0 E43.1
  have f53 : Af Z h43 b43 .long 1 (fun _ => (.long (0 : Int64))) := Af.new A43 rfl
  refine go_putF (pc' := 14) W43 (host := "") (Or.inl (w53 hw)) Via.refl f48 f47 (Or.inl (w54 hw)) (w34 hw) (ty := (.array .long)) (by decide) rfl rfl ga d7_11 rfl ?_
  intro T54 h54 W54 R54
  have f55 := f47.wr R54
  have f56 := f48.same R54
  have f57 := f49.other R54 (Or.inr (slot_ne (Or.inl (w41 hw)) (Or.inl (w54 hw)) (by decide) (t := .int) (t' := (.array .long)) (by decide) (by decide)))
  have f58 := f50.other R54 (Or.inr (slot_ne (Or.inl (w43 hw)) (Or.inl (w54 hw)) (by decide) (t := .boolean) (t' := (.array .long)) (by decide) (by decide)))
  have f59 := f53.other R54 (Ne.symm ne44)
  have k60 := k51.wr R54 (Or.inl (by simp))
  have z61 := Nat.le_trans z52 (Keep.of_wr R54).1
  exact go_retV W54 rfl d7_14 (nb rfl) (nb rfl) (⟨b43, rfl, ge45, old46, k60, f56, f57, f58, f59⟩)
set_option maxRecDepth 65536 in
set_option maxHeartbeats 4000000 in
theorem rm6 (l : Launch) (Z : State) (a0 : Array Value) (hw : Hw a0 Z) (b : Addr)  (h0 : Heap) (n0 : Nat) (Z0 : n0 ≤ h0.size) (Ea : Exa Z h0 b "java/util/BitSet") (F0 : Fld Z h0 b "java/util/BitSet" "words" "[J" .null) (F1 : Fld Z h0 b "java/util/BitSet" "wordsInUse" "I" (.int (0 : Int32))) (F2 : Fld Z h0 b "java/util/BitSet" "sizeIsSticky" "Z" (.int (0 : Int32))) (ga : n0 ≤ b) :
    Ct l Z K6 #[(.ref b)] h0 n0 (fun v h => ∃ x : Addr, v = none ∧ n0 ≤ x ∧ h0.size ≤ x ∧ Keep h0 h [b] ∧ Fld Z h b "java/util/BitSet" "words" "[J" (.ref x) ∧ Fld Z h b "java/util/BitSet" "wordsInUse" "I" (.int (0 : Int32)) ∧ Fld Z h b "java/util/BitSet" "sizeIsSticky" "Z" (.int (0 : Int32)) ∧ Af Z h x .long 1 (fun _ => (.long (0 : Int64)))) := by
  refine Ct.of (Ls := #[.val (.ref b)]) (plainFor_of_name (by first | decide +kernel | (simp [plainName, overriddenIn]; done))) (fun m => by first | rfl | (simp [entryFrame, mkF, argsToLocals, Value.category]; done)) ?_
  intro E T W
  refine go_aloadN (pc' := 1) W d6_0 rfl rfl rfl ?_
  refine go_initO (pc' := 4) W (w39 hw) (w19 hw) (w20 hw) d6_1 rfl (nb rfl) (nb rfl) rfl ?_
  intro T62 W62
  refine go_aloadN (pc' := 5) W62 d6_4 rfl rfl rfl ?_
  refine go_iconst (pc' := 6) (z := 0) W62 d6_5 rfl rfl ?_
  refine go_putF (pc' := 9) W62 (host := "") (Or.inl (w40 hw)) Via.refl F1 Ea (Or.inl (w41 hw)) (w34 hw) (ty := .int) (by decide) rfl rfl ga d6_6 rfl ?_
  intro T63 h63 W63 R63
  have f64 := Ea.wr R63
  have f65 := F0.other R63 (Or.inr (slot_ne (Or.inl (w54 hw)) (Or.inl (w41 hw)) (by decide) (t := (.array .long)) (t' := .int) (by decide) (by decide)))
  have f66 := F1.same R63
  have f67 := F2.other R63 (Or.inr (slot_ne (Or.inl (w43 hw)) (Or.inl (w41 hw)) (by decide) (t := .boolean) (t' := .int) (by decide) (by decide)))
  have k68 := (Keep.refl h0 [b]).wr R63 (Or.inl (by simp))
  have z69 := Nat.le_trans Z0 (Keep.of_wr R63).1
  refine go_aloadN (pc' := 10) W63 d6_9 rfl rfl rfl ?_
  refine go_iconst (pc' := 11) (z := 0) W63 d6_10 rfl rfl ?_
  refine go_putF (pc' := 14) W63 (host := "") (Or.inl (w42 hw)) Via.refl f67 f64 (Or.inl (w43 hw)) (w34 hw) (ty := .boolean) (by decide) rfl rfl ga d6_11 rfl ?_
  intro T70 h70 W70 R70
  have f71 := f64.wr R70
  have f72 := f65.other R70 (Or.inr (slot_ne (Or.inl (w54 hw)) (Or.inl (w43 hw)) (by decide) (t := (.array .long)) (t' := .boolean) (by decide) (by decide)))
  have f73 := f66.other R70 (Or.inr (slot_ne (Or.inl (w41 hw)) (Or.inl (w43 hw)) (by decide) (t := .int) (t' := .boolean) (by decide) (by decide)))
  have f74 := f67.same R70
  have k75 := k68.wr R70 (Or.inl (by simp))
  have z76 := Nat.le_trans z69 (Keep.of_wr R70).1
  refine go_aloadN (pc' := 15) W70 d6_14 rfl rfl rfl ?_
  refine go_bipush (pc' := 17) (z := 64) W70 d6_15 (by decide) rfl ?_
  refine go_callP (a := b) (kc := K7) (argsL := [(.int (64 : Int32))]) (rest := []) (pc' := 20) W70 (w44 hw) (w45 hw) (w47 hw) (w46 hw) (w35 hw) (w48 hw) f71 (rm7 E.l Z a0 hw b h70 n0 z76 f71 f72 f73 f74 ga) (by decide) pd2 rfl rfl rfl (nb rfl) (nb rfl) (nb rfl) (nb rfl) d6_17 rfl ?_
  rintro _ T77 h77 ⟨x77, rfl, gx77, so77, K77, g77_0, g77_1, g77_2, ax77⟩ W77
  have ne78 : b ≠ x77 := Nat.ne_of_lt (Nat.lt_of_lt_of_le f71.lt so77)
  have old79 : h0.size ≤ x77 := Nat.le_trans k75.1 so77
  have f80 := f71.keep K77
  have k84 := k75.trans K77 (allS (Or.inl (by simp)) all0)
  have z85 := Nat.le_trans z76 K77.1
  show Go E _ (Fm E T77 20 #[.val (.ref b)] [])
  refine go_aloadN (pc' := 21) W77 d6_20 rfl rfl rfl ?_
  refine go_iconst (pc' := 22) (z := 0) W77 d6_21 rfl rfl ?_
  refine go_putF (pc' := 25) W77 (host := "") (Or.inl (w42 hw)) Via.refl g77_2 f80 (Or.inl (w43 hw)) (w34 hw) (ty := .boolean) (by decide) rfl rfl ga d6_22 rfl ?_
  intro T86 h86 W86 R86
  have f87 := f80.wr R86
  have f88 := g77_0.other R86 (Or.inr (slot_ne (Or.inl (w54 hw)) (Or.inl (w43 hw)) (by decide) (t := (.array .long)) (t' := .boolean) (by decide) (by decide)))
  have f89 := g77_1.other R86 (Or.inr (slot_ne (Or.inl (w41 hw)) (Or.inl (w43 hw)) (by decide) (t := .int) (t' := .boolean) (by decide) (by decide)))
  have f90 := g77_2.same R86
  have f91 := ax77.other R86 (Ne.symm ne78)
  have k92 := k84.wr R86 (Or.inl (by simp))
  have z93 := Nat.le_trans z85 (Keep.of_wr R86).1
  exact go_retV W86 rfl d6_25 (nb rfl) (nb rfl) (⟨x77, rfl, gx77, old79, k92, f88, f89, f90, f91⟩)
set_option maxRecDepth 65536 in
set_option maxHeartbeats 4000000 in
theorem rm42 (l : Launch) (Z : State) (a0 : Array Value) (hw : Hw a0 Z) (x : Addr) (p : Int64) (h0 : Heap) (n0 : Nat) (Z0 : n0 ≤ h0.size) (Ax : Af Z h0 x .long 1 (fun _ => (.long p))) :
    Ct l Z K42 #[(.ref x), (.int (2 : Int32))] h0 n0 (fun v h => ∃ y : Addr, v = some (.ref y) ∧ n0 ≤ y ∧ h0.size ≤ y ∧ Keep h0 h [] ∧ Af Z h y .long 2 (fun j => if j = 0 then (.long p) else (.long (0 : Int64)))) := by
  refine Ct.of (Ls := #[.val (.ref x), .val (.int (2 : Int32)), .unset]) (plainFor_of_name (by first | decide +kernel | (simp [plainName, overriddenIn]; done))) (fun m => by first | rfl | (simp [entryFrame, mkF, argsToLocals, Value.category]; done)) ?_
  intro E T W
  refine go_iloadN (pc' := 1) W d42_0 rfl rfl ?_
  refine go_aloadN (pc' := 2) W d42_1 rfl rfl rfl ?_
  refine go_lenF (pc' := 3) (z := (1 : Int32)) W Ax rfl d42_2 rfl ?_
  refine go_icmp_ne (pt := 14) (pf := 6) W d42_3 (by decide) rfl rfl (fun c3_94 => ?_) (fun c3_94 => ?_)
  · -- pc 3 taken
    refine go_iloadN (pc' := 15) W d42_14 rfl rfl ?_
    refine go_newP (pc' := 17) (aty := .long) W (w52 hw) d42_15 (by decide) 2 (by decide) (by decide) (nb rfl) (nb rfl) rfl ?_
    intro T95 h95 cA95 b95 g95 W95 E95 A95
    have ne96 : x ≠ b95 := by rw [g95]; exact Nat.ne_of_lt Ax.lt
    have ge97 : n0 ≤ b95 := by rw [g95]; exact Z0
    have old98 : h0.size ≤ b95 := by rw [g95]; exact (Keep.refl h0 []).1
    have f99 := Ax.ext E95
    have k100 := (Keep.refl h0 []).ext E95
    have z101 := Nat.le_trans Z0 E95.1
    have f102 : Af Z h95 b95 .long 2 (fun _ => (.long (0 : Int64))) := Af.new A95 rfl
    refine go_astoreN (pc' := 18) (l' := #[.val (.ref x), .val (.int (2 : Int32)), .val (.ref b95)]) W95 d42_17 rfl rfl rfl ?_
    refine go_aloadN (pc' := 19) W95 d42_18 rfl rfl rfl ?_
    refine go_iconst (pc' := 20) (z := 0) W95 d42_19 rfl rfl ?_
    refine go_aloadN (pc' := 21) W95 d42_20 rfl rfl rfl ?_
    refine go_iconst (pc' := 22) (z := 0) W95 d42_21 rfl rfl ?_
    refine go_aloadN (pc' := 23) W95 d42_22 rfl rfl rfl ?_
    refine go_lenF (pc' := 24) (z := (1 : Int32)) W95 f99 rfl d42_23 rfl ?_
    refine go_iloadN (pc' := 25) W95 d42_24 rfl rfl ?_
    refine go_callS (kc := K27) (argsL := [(.int (1 : Int32)), (.int (2 : Int32))]) (rest := [(.int (0 : Int32)), (.ref b95), (.int (0 : Int32)), (.ref x)]) (pc' := 28) W95 (w176 hw) (w177 hw) (w115 hw) (w178 hw) (rmL27_1_2 E.l Z a0 hw h95 n0 z101) (by decide) pd3 rfl rfl rfl (nb rfl) (nb rfl) (nb rfl) (nb rfl) d42_25 rfl ?_
    rintro _ T103 h103 ⟨rfl, q103⟩ W103
    replace W103 := W103.sub q103
    show Go E _ (Fm E T103 28 #[.val (.ref x), .val (.int (2 : Int32)), .val (.ref b95)] [(.int (1 : Int32)), (.int (0 : Int32)), (.ref b95), (.int (0 : Int32)), (.ref x)])
    refine go_acopyF (pc' := 31) (o := 0) (q := 0) (r := 1) W103 (w179 hw) (w182 hw) (w180 hw) (w181 hw) f99 f102 (by decide) (by decide) (by decide) (by decide) (by decide) (by decide) (by decide) (by decide) (fun i hi => by match i, hi with | 0, _ => exact rfl) (fun q => by cases q) ge97 d42_28 rfl (nb rfl) (nb rfl) rfl ?_
    intro T104 h104 W104 K104 A104
    have k105 := k100.trans K104 (allS (Or.inr old98) all0)
    have z106 := Nat.le_trans z101 K104.1
    have f107 := f99.keep K104 (ninS ne96 nin0)
    have f108 : Af Z h104 b95 .long 2 (fun j => if j = 0 then (.long p) else (.long (0 : Int64))) := A104.congr (fun j hj => by match j, hj with | 0, _ => rfl | 1, _ => rfl)
    refine go_aloadN (pc' := 32) W104 d42_31 rfl rfl rfl ?_
    exact go_retA W104 (t := (.array .long)) rfl rfl rfl rfl d42_32 (nb rfl) (nb rfl) (⟨b95, rfl, ge97, old98, k105, f108⟩)
  · exact absurd c3_94 (by decide)
set_option maxRecDepth 65536 in
set_option maxHeartbeats 4000000 in
theorem rmE1_0 (l : Launch) (Z : State) (a0 : Array Value) (hw : Hw a0 Z) (b : Addr) (x : Addr) (p : Int64) (h0 : Heap) (n0 : Nat) (Z0 : n0 ≤ h0.size) (Ea : Exa Z h0 b "java/util/BitSet") (F0 : Fld Z h0 b "java/util/BitSet" "words" "[J" (.ref x)) (F1 : Fld Z h0 b "java/util/BitSet" "wordsInUse" "I" (.int (0 : Int32))) (F2 : Fld Z h0 b "java/util/BitSet" "sizeIsSticky" "Z" (.int (0 : Int32))) (ga : n0 ≤ b) (gx : n0 ≤ x) (nbx : b ≠ x) (Ax : Af Z h0 x .long 1 (fun _ => (.long p))) :
    Ct l Z K11 #[(.ref b), (.int (1 : Int32))] h0 n0 (fun v h => v = none ∧ Keep h0 h [b] ∧ Fld Z h b "java/util/BitSet" "words" "[J" (.ref x) ∧ Fld Z h b "java/util/BitSet" "wordsInUse" "I" (.int (0 : Int32)) ∧ Fld Z h b "java/util/BitSet" "sizeIsSticky" "Z" (.int (0 : Int32)) ∧ Af Z h x .long 1 (fun _ => (.long p))) := by
  refine Ct.of (Ls := #[.val (.ref b), .val (.int (1 : Int32)), .unset]) (plainFor_of_name (by first | decide +kernel | (simp [plainName, overriddenIn]; done))) (fun m => by first | rfl | (simp [entryFrame, mkF, argsToLocals, Value.category]; done)) ?_
  intro E T W
  refine go_aloadN (pc' := 1) W d11_0 rfl rfl rfl ?_
  refine go_getF (pc' := 4) W (host := "") (Or.inl (w53 hw)) Via.refl F0 d11_1 rfl ?_
  intro T109 W109
  refine go_lenF (pc' := 5) (z := (1 : Int32)) W109 Ax rfl d11_4 rfl ?_
  refine go_iloadN (pc' := 6) W109 d11_5 rfl rfl ?_
  refine go_icmp_ge (pt := 38) (pf := 9) W109 d11_6 (by decide) rfl rfl (fun c6_110 => ?_) (fun c6_110 => ?_)
  · -- pc 6 taken
    exact go_retV W109 rfl d11_38 (nb rfl) (nb rfl) (⟨rfl, (Keep.refl h0 [b]), F0, F1, F2, Ax⟩)
  · exact absurd c6_110 (by decide)
set_option maxRecDepth 65536 in
set_option maxHeartbeats 4000000 in
theorem rmE2_0 (l : Launch) (Z : State) (a0 : Array Value) (hw : Hw a0 Z) (b : Addr) (x : Addr) (p : Int64) (h0 : Heap) (n0 : Nat) (Z0 : n0 ≤ h0.size) (Ea : Exa Z h0 b "java/util/BitSet") (F0 : Fld Z h0 b "java/util/BitSet" "words" "[J" (.ref x)) (F1 : Fld Z h0 b "java/util/BitSet" "wordsInUse" "I" (.int (0 : Int32))) (F2 : Fld Z h0 b "java/util/BitSet" "sizeIsSticky" "Z" (.int (0 : Int32))) (ga : n0 ≤ b) (gx : n0 ≤ x) (nbx : b ≠ x) (Ax : Af Z h0 x .long 1 (fun _ => (.long p))) :
    Ct l Z K11 #[(.ref b), (.int (2 : Int32))] h0 n0 (fun v h => ∃ y : Addr, v = none ∧ n0 ≤ y ∧ h0.size ≤ y ∧ Keep h0 h [b] ∧ Fld Z h b "java/util/BitSet" "words" "[J" (.ref y) ∧ Fld Z h b "java/util/BitSet" "wordsInUse" "I" (.int (0 : Int32)) ∧ Fld Z h b "java/util/BitSet" "sizeIsSticky" "Z" (.int (0 : Int32)) ∧ Af Z h y .long 2 (fun j => if j = 0 then (.long p) else (.long (0 : Int64)))) := by
  refine Ct.of (Ls := #[.val (.ref b), .val (.int (2 : Int32)), .unset]) (plainFor_of_name (by first | decide +kernel | (simp [plainName, overriddenIn]; done))) (fun m => by first | rfl | (simp [entryFrame, mkF, argsToLocals, Value.category]; done)) ?_
  intro E T W
  refine go_aloadN (pc' := 1) W d11_0 rfl rfl rfl ?_
  refine go_getF (pc' := 4) W (host := "") (Or.inl (w53 hw)) Via.refl F0 d11_1 rfl ?_
  intro T111 W111
  refine go_lenF (pc' := 5) (z := (1 : Int32)) W111 Ax rfl d11_4 rfl ?_
  refine go_iloadN (pc' := 6) W111 d11_5 rfl rfl ?_
  refine go_icmp_ge (pt := 38) (pf := 9) W111 d11_6 (by decide) rfl rfl (fun c6_112 => ?_) (fun c6_112 => ?_)
  · exact absurd c6_112 (by decide)
  · -- pc 6 not taken
    refine go_iconst (pc' := 10) (z := 2) W111 d11_9 rfl rfl ?_
    refine go_aloadN (pc' := 11) W111 d11_10 rfl rfl rfl ?_
    refine go_getF (pc' := 14) W111 (host := "") (Or.inl (w53 hw)) Via.refl F0 d11_11 rfl ?_
    intro T113 W113
    refine go_lenF (pc' := 15) (z := (1 : Int32)) W113 Ax rfl d11_14 rfl ?_
    refine go_imulZ (pc' := 16) (z := 2) W113 d11_15 (by decide) rfl ?_
    refine go_iloadN (pc' := 17) W113 d11_16 rfl rfl ?_
    refine go_callS (kc := K19) (argsL := [(.int (2 : Int32)), (.int (2 : Int32))]) (rest := []) (pc' := 20) W113 (w278 hw) (w114 hw) (w115 hw) (w116 hw) (rmL19_2_2 E.l Z a0 hw h0 n0 Z0) (by decide) pd3 rfl rfl rfl (nb rfl) (nb rfl) (nb rfl) (nb rfl) d11_17 rfl ?_
    rintro _ T114 h114 ⟨rfl, q114⟩ W114
    replace W114 := W114.sub q114
    show Go E _ (Fm E T114 20 #[.val (.ref b), .val (.int (2 : Int32)), .unset] [(.int (2 : Int32))])
    refine go_istoreN (pc' := 21) (l' := #[.val (.ref b), .val (.int (2 : Int32)), .val (.int (2 : Int32))]) W114 d11_20 rfl rfl ?_
    refine go_aloadN (pc' := 22) W114 d11_21 rfl rfl rfl ?_
    refine go_aloadN (pc' := 23) W114 d11_22 rfl rfl rfl ?_
    refine go_getF (pc' := 26) W114 (host := "") (Or.inl (w53 hw)) Via.refl F0 d11_23 rfl ?_
    intro T115 W115
    refine go_iloadN (pc' := 27) W115 d11_26 rfl rfl ?_
    refine go_callS (kc := K42) (argsL := [(.ref x), (.int (2 : Int32))]) (rest := [(.ref b)]) (pc' := 30) W115 (w279 hw) (w280 hw) (w163 hw) (w281 hw) (rm42 E.l Z a0 hw x p h0 n0 Z0 Ax) (by decide) pd4 rfl rfl rfl (nb rfl) (nb rfl) (nb rfl) (nb rfl) d11_27 rfl ?_
    rintro _ T116 h116 ⟨y116, rfl, gy116, so116, K116, ay116⟩ W116
    have ne117 : b ≠ y116 := Nat.ne_of_lt (Nat.lt_of_lt_of_le Ea.lt so116)
    have ne118 : x ≠ y116 := Nat.ne_of_lt (Nat.lt_of_lt_of_le Ax.lt so116)
    have old119 : h0.size ≤ y116 := Nat.le_trans (Keep.refl h0 [b]).1 so116
    have f120 := Ea.keep K116
    have f121 := F0.keep K116 nin0
    have f122 := F1.keep K116 nin0
    have f123 := F2.keep K116 nin0
    have k124 := (Keep.refl h0 [b]).trans K116 all0
    have z125 := Nat.le_trans Z0 K116.1
    have f126 := Ax.keep K116 nin0
    show Go E _ (Fm E T116 30 #[.val (.ref b), .val (.int (2 : Int32)), .val (.int (2 : Int32))] [(.ref y116), (.ref b)])
    refine go_putF (pc' := 33) W116 (host := "") (Or.inl (w53 hw)) Via.refl f121 f120 (Or.inl (w54 hw)) (w34 hw) (ty := (.array .long)) (by decide) rfl rfl ga d11_30 rfl ?_
    intro T127 h127 W127 R127
    have f128 := f120.wr R127
    have f129 := f121.same R127
    have f130 := f122.other R127 (Or.inr (slot_ne (Or.inl (w41 hw)) (Or.inl (w54 hw)) (by decide) (t := .int) (t' := (.array .long)) (by decide) (by decide)))
    have f131 := f123.other R127 (Or.inr (slot_ne (Or.inl (w43 hw)) (Or.inl (w54 hw)) (by decide) (t := .boolean) (t' := (.array .long)) (by decide) (by decide)))
    have f132 := f126.other R127 (Ne.symm nbx)
    have f133 := ay116.other R127 (Ne.symm ne117)
    have k134 := k124.wr R127 (Or.inl (by simp))
    have z135 := Nat.le_trans z125 (Keep.of_wr R127).1
    refine go_aloadN (pc' := 34) W127 d11_33 rfl rfl rfl ?_
    refine go_iconst (pc' := 35) (z := 0) W127 d11_34 rfl rfl ?_
    refine go_putF (pc' := 38) W127 (host := "") (Or.inl (w42 hw)) Via.refl f131 f128 (Or.inl (w43 hw)) (w34 hw) (ty := .boolean) (by decide) rfl rfl ga d11_35 rfl ?_
    intro T136 h136 W136 R136
    have f137 := f128.wr R136
    have f138 := f129.other R136 (Or.inr (slot_ne (Or.inl (w54 hw)) (Or.inl (w43 hw)) (by decide) (t := (.array .long)) (t' := .boolean) (by decide) (by decide)))
    have f139 := f130.other R136 (Or.inr (slot_ne (Or.inl (w41 hw)) (Or.inl (w43 hw)) (by decide) (t := .int) (t' := .boolean) (by decide) (by decide)))
    have f140 := f131.same R136
    have f141 := f132.other R136 (Ne.symm nbx)
    have f142 := f133.other R136 (Ne.symm ne117)
    have k143 := k134.wr R136 (Or.inl (by simp))
    have z144 := Nat.le_trans z135 (Keep.of_wr R136).1
    exact go_retV W136 rfl d11_38 (nb rfl) (nb rfl) (⟨y116, rfl, gy116, old119, k143, f138, f139, f140, f142⟩)
set_option maxRecDepth 65536 in
set_option maxHeartbeats 4000000 in
theorem rmE2_1 (l : Launch) (Z : State) (a0 : Array Value) (hw : Hw a0 Z) (b : Addr) (x : Addr) (p : Int64) (h0 : Heap) (n0 : Nat) (Z0 : n0 ≤ h0.size) (Ea : Exa Z h0 b "java/util/BitSet") (F0 : Fld Z h0 b "java/util/BitSet" "words" "[J" (.ref x)) (F1 : Fld Z h0 b "java/util/BitSet" "wordsInUse" "I" (.int (1 : Int32))) (F2 : Fld Z h0 b "java/util/BitSet" "sizeIsSticky" "Z" (.int (0 : Int32))) (ga : n0 ≤ b) (gx : n0 ≤ x) (nbx : b ≠ x) (Ax : Af Z h0 x .long 1 (fun _ => (.long p))) :
    Ct l Z K11 #[(.ref b), (.int (2 : Int32))] h0 n0 (fun v h => ∃ y : Addr, v = none ∧ n0 ≤ y ∧ h0.size ≤ y ∧ Keep h0 h [b] ∧ Fld Z h b "java/util/BitSet" "words" "[J" (.ref y) ∧ Fld Z h b "java/util/BitSet" "wordsInUse" "I" (.int (1 : Int32)) ∧ Fld Z h b "java/util/BitSet" "sizeIsSticky" "Z" (.int (0 : Int32)) ∧ Af Z h y .long 2 (fun j => if j = 0 then (.long p) else (.long (0 : Int64)))) := by
  refine Ct.of (Ls := #[.val (.ref b), .val (.int (2 : Int32)), .unset]) (plainFor_of_name (by first | decide +kernel | (simp [plainName, overriddenIn]; done))) (fun m => by first | rfl | (simp [entryFrame, mkF, argsToLocals, Value.category]; done)) ?_
  intro E T W
  refine go_aloadN (pc' := 1) W d11_0 rfl rfl rfl ?_
  refine go_getF (pc' := 4) W (host := "") (Or.inl (w53 hw)) Via.refl F0 d11_1 rfl ?_
  intro T145 W145
  refine go_lenF (pc' := 5) (z := (1 : Int32)) W145 Ax rfl d11_4 rfl ?_
  refine go_iloadN (pc' := 6) W145 d11_5 rfl rfl ?_
  refine go_icmp_ge (pt := 38) (pf := 9) W145 d11_6 (by decide) rfl rfl (fun c6_146 => ?_) (fun c6_146 => ?_)
  · exact absurd c6_146 (by decide)
  · -- pc 6 not taken
    refine go_iconst (pc' := 10) (z := 2) W145 d11_9 rfl rfl ?_
    refine go_aloadN (pc' := 11) W145 d11_10 rfl rfl rfl ?_
    refine go_getF (pc' := 14) W145 (host := "") (Or.inl (w53 hw)) Via.refl F0 d11_11 rfl ?_
    intro T147 W147
    refine go_lenF (pc' := 15) (z := (1 : Int32)) W147 Ax rfl d11_14 rfl ?_
    refine go_imulZ (pc' := 16) (z := 2) W147 d11_15 (by decide) rfl ?_
    refine go_iloadN (pc' := 17) W147 d11_16 rfl rfl ?_
    refine go_callS (kc := K19) (argsL := [(.int (2 : Int32)), (.int (2 : Int32))]) (rest := []) (pc' := 20) W147 (w278 hw) (w114 hw) (w115 hw) (w116 hw) (rmL19_2_2 E.l Z a0 hw h0 n0 Z0) (by decide) pd3 rfl rfl rfl (nb rfl) (nb rfl) (nb rfl) (nb rfl) d11_17 rfl ?_
    rintro _ T148 h148 ⟨rfl, q148⟩ W148
    replace W148 := W148.sub q148
    show Go E _ (Fm E T148 20 #[.val (.ref b), .val (.int (2 : Int32)), .unset] [(.int (2 : Int32))])
    refine go_istoreN (pc' := 21) (l' := #[.val (.ref b), .val (.int (2 : Int32)), .val (.int (2 : Int32))]) W148 d11_20 rfl rfl ?_
    refine go_aloadN (pc' := 22) W148 d11_21 rfl rfl rfl ?_
    refine go_aloadN (pc' := 23) W148 d11_22 rfl rfl rfl ?_
    refine go_getF (pc' := 26) W148 (host := "") (Or.inl (w53 hw)) Via.refl F0 d11_23 rfl ?_
    intro T149 W149
    refine go_iloadN (pc' := 27) W149 d11_26 rfl rfl ?_
    refine go_callS (kc := K42) (argsL := [(.ref x), (.int (2 : Int32))]) (rest := [(.ref b)]) (pc' := 30) W149 (w279 hw) (w280 hw) (w163 hw) (w281 hw) (rm42 E.l Z a0 hw x p h0 n0 Z0 Ax) (by decide) pd4 rfl rfl rfl (nb rfl) (nb rfl) (nb rfl) (nb rfl) d11_27 rfl ?_
    rintro _ T150 h150 ⟨y150, rfl, gy150, so150, K150, ay150⟩ W150
    have ne151 : b ≠ y150 := Nat.ne_of_lt (Nat.lt_of_lt_of_le Ea.lt so150)
    have ne152 : x ≠ y150 := Nat.ne_of_lt (Nat.lt_of_lt_of_le Ax.lt so150)
    have old153 : h0.size ≤ y150 := Nat.le_trans (Keep.refl h0 [b]).1 so150
    have f154 := Ea.keep K150
    have f155 := F0.keep K150 nin0
    have f156 := F1.keep K150 nin0
    have f157 := F2.keep K150 nin0
    have k158 := (Keep.refl h0 [b]).trans K150 all0
    have z159 := Nat.le_trans Z0 K150.1
    have f160 := Ax.keep K150 nin0
    show Go E _ (Fm E T150 30 #[.val (.ref b), .val (.int (2 : Int32)), .val (.int (2 : Int32))] [(.ref y150), (.ref b)])
    refine go_putF (pc' := 33) W150 (host := "") (Or.inl (w53 hw)) Via.refl f155 f154 (Or.inl (w54 hw)) (w34 hw) (ty := (.array .long)) (by decide) rfl rfl ga d11_30 rfl ?_
    intro T161 h161 W161 R161
    have f162 := f154.wr R161
    have f163 := f155.same R161
    have f164 := f156.other R161 (Or.inr (slot_ne (Or.inl (w41 hw)) (Or.inl (w54 hw)) (by decide) (t := .int) (t' := (.array .long)) (by decide) (by decide)))
    have f165 := f157.other R161 (Or.inr (slot_ne (Or.inl (w43 hw)) (Or.inl (w54 hw)) (by decide) (t := .boolean) (t' := (.array .long)) (by decide) (by decide)))
    have f166 := f160.other R161 (Ne.symm nbx)
    have f167 := ay150.other R161 (Ne.symm ne151)
    have k168 := k158.wr R161 (Or.inl (by simp))
    have z169 := Nat.le_trans z159 (Keep.of_wr R161).1
    refine go_aloadN (pc' := 34) W161 d11_33 rfl rfl rfl ?_
    refine go_iconst (pc' := 35) (z := 0) W161 d11_34 rfl rfl ?_
    refine go_putF (pc' := 38) W161 (host := "") (Or.inl (w42 hw)) Via.refl f165 f162 (Or.inl (w43 hw)) (w34 hw) (ty := .boolean) (by decide) rfl rfl ga d11_35 rfl ?_
    intro T170 h170 W170 R170
    have f171 := f162.wr R170
    have f172 := f163.other R170 (Or.inr (slot_ne (Or.inl (w54 hw)) (Or.inl (w43 hw)) (by decide) (t := (.array .long)) (t' := .boolean) (by decide) (by decide)))
    have f173 := f164.other R170 (Or.inr (slot_ne (Or.inl (w41 hw)) (Or.inl (w43 hw)) (by decide) (t := .int) (t' := .boolean) (by decide) (by decide)))
    have f174 := f165.same R170
    have f175 := f166.other R170 (Ne.symm nbx)
    have f176 := f167.other R170 (Ne.symm ne151)
    have k177 := k168.wr R170 (Or.inl (by simp))
    have z178 := Nat.le_trans z169 (Keep.of_wr R170).1
    exact go_retV W170 rfl d11_38 (nb rfl) (nb rfl) (⟨y150, rfl, gy150, old153, k177, f172, f173, f174, f176⟩)
set_option maxRecDepth 65536 in
set_option maxHeartbeats 4000000 in
theorem rmX0_0 (l : Launch) (Z : State) (a0 : Array Value) (hw : Hw a0 Z) (b : Addr) (x : Addr) (p : Int64) (h0 : Heap) (n0 : Nat) (Z0 : n0 ≤ h0.size) (Ea : Exa Z h0 b "java/util/BitSet") (F0 : Fld Z h0 b "java/util/BitSet" "words" "[J" (.ref x)) (F1 : Fld Z h0 b "java/util/BitSet" "wordsInUse" "I" (.int (0 : Int32))) (F2 : Fld Z h0 b "java/util/BitSet" "sizeIsSticky" "Z" (.int (0 : Int32))) (ga : n0 ≤ b) (gx : n0 ≤ x) (nbx : b ≠ x) (Ax : Af Z h0 x .long 1 (fun _ => (.long p))) :
    Ct l Z K10 #[(.ref b), (.int (0 : Int32))] h0 n0 (fun v h => v = none ∧ Keep h0 h [b] ∧ Fld Z h b "java/util/BitSet" "words" "[J" (.ref x) ∧ Fld Z h b "java/util/BitSet" "wordsInUse" "I" (.int (1 : Int32)) ∧ Fld Z h b "java/util/BitSet" "sizeIsSticky" "Z" (.int (0 : Int32)) ∧ Af Z h x .long 1 (fun _ => (.long p))) := by
  refine Ct.of (Ls := #[.val (.ref b), .val (.int (0 : Int32)), .unset]) (plainFor_of_name (by first | decide +kernel | (simp [plainName, overriddenIn]; done))) (fun m => by first | rfl | (simp [entryFrame, mkF, argsToLocals, Value.category]; done)) ?_
  intro E T W
  refine go_iloadN (pc' := 1) W d10_0 rfl rfl ?_
  refine go_iconst (pc' := 2) (z := 1) W d10_1 rfl rfl ?_
  refine go_iaddZ (pc' := 3) (z := 1) W d10_2 (by decide) rfl ?_
  refine go_istoreN (pc' := 4) (l' := #[.val (.ref b), .val (.int (0 : Int32)), .val (.int (1 : Int32))]) W d10_3 rfl rfl ?_
  refine go_aloadN (pc' := 5) W d10_4 rfl rfl rfl ?_
  refine go_getF (pc' := 8) W (host := "") (Or.inl (w40 hw)) Via.refl F1 d10_5 rfl ?_
  intro T179 W179
  refine go_iloadN (pc' := 9) W179 d10_8 rfl rfl ?_
  refine go_icmp_ge (pt := 22) (pf := 12) W179 d10_9 (by decide) rfl rfl (fun c9_180 => ?_) (fun c9_180 => ?_)
  · exact absurd c9_180 (by decide)
  · -- pc 9 not taken
    refine go_aloadN (pc' := 13) W179 d10_12 rfl rfl rfl ?_
    refine go_iloadN (pc' := 14) W179 d10_13 rfl rfl ?_
    refine go_callP (a := b) (kc := K11) (argsL := [(.int (1 : Int32))]) (rest := []) (pc' := 17) W179 (w65 hw) (w66 hw) (w68 hw) (w67 hw) (w35 hw) (w69 hw) Ea (rmE1_0 E.l Z a0 hw b x p h0 n0 Z0 Ea F0 F1 F2 ga gx nbx Ax) (by decide) pd2 rfl rfl rfl (nb rfl) (nb rfl) (nb rfl) (nb rfl) d10_14 rfl ?_
    rintro _ T181 h181 ⟨rfl, K181, g181_0, g181_1, g181_2, ay181⟩ W181
    have f182 := Ea.keep K181
    have k186 := (Keep.refl h0 [b]).trans K181 (allS (Or.inl (by simp)) all0)
    have z187 := Nat.le_trans Z0 K181.1
    have f188 := Ax.keep K181 (ninS (Ne.symm nbx) nin0)
    show Go E _ (Fm E T181 17 #[.val (.ref b), .val (.int (0 : Int32)), .val (.int (1 : Int32))] [])
    refine go_aloadN (pc' := 18) W181 d10_17 rfl rfl rfl ?_
    refine go_iloadN (pc' := 19) W181 d10_18 rfl rfl ?_
    refine go_putF (pc' := 22) W181 (host := "") (Or.inl (w40 hw)) Via.refl g181_1 f182 (Or.inl (w41 hw)) (w34 hw) (ty := .int) (by decide) rfl rfl ga d10_19 rfl ?_
    intro T189 h189 W189 R189
    have f190 := f182.wr R189
    have f191 := ay181.other R189 (Ne.symm nbx)
    have f192 := g181_0.other R189 (Or.inr (slot_ne (Or.inl (w54 hw)) (Or.inl (w41 hw)) (by decide) (t := (.array .long)) (t' := .int) (by decide) (by decide)))
    have f193 := g181_1.same R189
    have f194 := g181_2.other R189 (Or.inr (slot_ne (Or.inl (w43 hw)) (Or.inl (w41 hw)) (by decide) (t := .boolean) (t' := .int) (by decide) (by decide)))
    have k195 := k186.wr R189 (Or.inl (by simp))
    have z196 := Nat.le_trans z187 (Keep.of_wr R189).1
    exact go_retV W189 rfl d10_22 (nb rfl) (nb rfl) (⟨rfl, k195, f192, f193, f194, f191⟩)
set_option maxRecDepth 65536 in
set_option maxHeartbeats 4000000 in
theorem rmX0_1 (l : Launch) (Z : State) (a0 : Array Value) (hw : Hw a0 Z) (b : Addr) (x : Addr) (p : Int64) (h0 : Heap) (n0 : Nat) (Z0 : n0 ≤ h0.size) (Ea : Exa Z h0 b "java/util/BitSet") (F0 : Fld Z h0 b "java/util/BitSet" "words" "[J" (.ref x)) (F1 : Fld Z h0 b "java/util/BitSet" "wordsInUse" "I" (.int (1 : Int32))) (F2 : Fld Z h0 b "java/util/BitSet" "sizeIsSticky" "Z" (.int (0 : Int32))) (ga : n0 ≤ b) (gx : n0 ≤ x) (nbx : b ≠ x) (Ax : Af Z h0 x .long 1 (fun _ => (.long p))) :
    Ct l Z K10 #[(.ref b), (.int (0 : Int32))] h0 n0 (fun v h => v = none ∧ Keep h0 h [b] ∧ Fld Z h b "java/util/BitSet" "words" "[J" (.ref x) ∧ Fld Z h b "java/util/BitSet" "wordsInUse" "I" (.int (1 : Int32)) ∧ Fld Z h b "java/util/BitSet" "sizeIsSticky" "Z" (.int (0 : Int32)) ∧ Af Z h x .long 1 (fun _ => (.long p))) := by
  refine Ct.of (Ls := #[.val (.ref b), .val (.int (0 : Int32)), .unset]) (plainFor_of_name (by first | decide +kernel | (simp [plainName, overriddenIn]; done))) (fun m => by first | rfl | (simp [entryFrame, mkF, argsToLocals, Value.category]; done)) ?_
  intro E T W
  refine go_iloadN (pc' := 1) W d10_0 rfl rfl ?_
  refine go_iconst (pc' := 2) (z := 1) W d10_1 rfl rfl ?_
  refine go_iaddZ (pc' := 3) (z := 1) W d10_2 (by decide) rfl ?_
  refine go_istoreN (pc' := 4) (l' := #[.val (.ref b), .val (.int (0 : Int32)), .val (.int (1 : Int32))]) W d10_3 rfl rfl ?_
  refine go_aloadN (pc' := 5) W d10_4 rfl rfl rfl ?_
  refine go_getF (pc' := 8) W (host := "") (Or.inl (w40 hw)) Via.refl F1 d10_5 rfl ?_
  intro T197 W197
  refine go_iloadN (pc' := 9) W197 d10_8 rfl rfl ?_
  refine go_icmp_ge (pt := 22) (pf := 12) W197 d10_9 (by decide) rfl rfl (fun c9_198 => ?_) (fun c9_198 => ?_)
  · -- pc 9 taken
    exact go_retV W197 rfl d10_22 (nb rfl) (nb rfl) (⟨rfl, (Keep.refl h0 [b]), F0, F1, F2, Ax⟩)
  · exact absurd c9_198 (by decide)
set_option maxRecDepth 65536 in
set_option maxHeartbeats 4000000 in
theorem rmX1_0 (l : Launch) (Z : State) (a0 : Array Value) (hw : Hw a0 Z) (b : Addr) (x : Addr) (p : Int64) (h0 : Heap) (n0 : Nat) (Z0 : n0 ≤ h0.size) (Ea : Exa Z h0 b "java/util/BitSet") (F0 : Fld Z h0 b "java/util/BitSet" "words" "[J" (.ref x)) (F1 : Fld Z h0 b "java/util/BitSet" "wordsInUse" "I" (.int (0 : Int32))) (F2 : Fld Z h0 b "java/util/BitSet" "sizeIsSticky" "Z" (.int (0 : Int32))) (ga : n0 ≤ b) (gx : n0 ≤ x) (nbx : b ≠ x) (Ax : Af Z h0 x .long 1 (fun _ => (.long p))) :
    Ct l Z K10 #[(.ref b), (.int (1 : Int32))] h0 n0 (fun v h => ∃ y : Addr, v = none ∧ n0 ≤ y ∧ h0.size ≤ y ∧ Keep h0 h [b] ∧ Fld Z h b "java/util/BitSet" "words" "[J" (.ref y) ∧ Fld Z h b "java/util/BitSet" "wordsInUse" "I" (.int (2 : Int32)) ∧ Fld Z h b "java/util/BitSet" "sizeIsSticky" "Z" (.int (0 : Int32)) ∧ Af Z h y .long 2 (fun j => if j = 0 then (.long p) else (.long (0 : Int64)))) := by
  refine Ct.of (Ls := #[.val (.ref b), .val (.int (1 : Int32)), .unset]) (plainFor_of_name (by first | decide +kernel | (simp [plainName, overriddenIn]; done))) (fun m => by first | rfl | (simp [entryFrame, mkF, argsToLocals, Value.category]; done)) ?_
  intro E T W
  refine go_iloadN (pc' := 1) W d10_0 rfl rfl ?_
  refine go_iconst (pc' := 2) (z := 1) W d10_1 rfl rfl ?_
  refine go_iaddZ (pc' := 3) (z := 2) W d10_2 (by decide) rfl ?_
  refine go_istoreN (pc' := 4) (l' := #[.val (.ref b), .val (.int (1 : Int32)), .val (.int (2 : Int32))]) W d10_3 rfl rfl ?_
  refine go_aloadN (pc' := 5) W d10_4 rfl rfl rfl ?_
  refine go_getF (pc' := 8) W (host := "") (Or.inl (w40 hw)) Via.refl F1 d10_5 rfl ?_
  intro T199 W199
  refine go_iloadN (pc' := 9) W199 d10_8 rfl rfl ?_
  refine go_icmp_ge (pt := 22) (pf := 12) W199 d10_9 (by decide) rfl rfl (fun c9_200 => ?_) (fun c9_200 => ?_)
  · exact absurd c9_200 (by decide)
  · -- pc 9 not taken
    refine go_aloadN (pc' := 13) W199 d10_12 rfl rfl rfl ?_
    refine go_iloadN (pc' := 14) W199 d10_13 rfl rfl ?_
    refine go_callP (a := b) (kc := K11) (argsL := [(.int (2 : Int32))]) (rest := []) (pc' := 17) W199 (w65 hw) (w66 hw) (w68 hw) (w67 hw) (w35 hw) (w69 hw) Ea (rmE2_0 E.l Z a0 hw b x p h0 n0 Z0 Ea F0 F1 F2 ga gx nbx Ax) (by decide) pd2 rfl rfl rfl (nb rfl) (nb rfl) (nb rfl) (nb rfl) d10_14 rfl ?_
    rintro _ T201 h201 ⟨y201, rfl, gy201, so201, K201, g201_0, g201_1, g201_2, ay201⟩ W201
    have ne202 : b ≠ y201 := Nat.ne_of_lt (Nat.lt_of_lt_of_le Ea.lt so201)
    have ne203 : x ≠ y201 := Nat.ne_of_lt (Nat.lt_of_lt_of_le Ax.lt so201)
    have old204 : h0.size ≤ y201 := Nat.le_trans (Keep.refl h0 [b]).1 so201
    have f205 := Ea.keep K201
    have k209 := (Keep.refl h0 [b]).trans K201 (allS (Or.inl (by simp)) all0)
    have z210 := Nat.le_trans Z0 K201.1
    have f211 := Ax.keep K201 (ninS (Ne.symm nbx) nin0)
    show Go E _ (Fm E T201 17 #[.val (.ref b), .val (.int (1 : Int32)), .val (.int (2 : Int32))] [])
    refine go_aloadN (pc' := 18) W201 d10_17 rfl rfl rfl ?_
    refine go_iloadN (pc' := 19) W201 d10_18 rfl rfl ?_
    refine go_putF (pc' := 22) W201 (host := "") (Or.inl (w40 hw)) Via.refl g201_1 f205 (Or.inl (w41 hw)) (w34 hw) (ty := .int) (by decide) rfl rfl ga d10_19 rfl ?_
    intro T212 h212 W212 R212
    have f213 := f205.wr R212
    have f214 := f211.other R212 (Ne.symm nbx)
    have f215 := g201_0.other R212 (Or.inr (slot_ne (Or.inl (w54 hw)) (Or.inl (w41 hw)) (by decide) (t := (.array .long)) (t' := .int) (by decide) (by decide)))
    have f216 := g201_1.same R212
    have f217 := g201_2.other R212 (Or.inr (slot_ne (Or.inl (w43 hw)) (Or.inl (w41 hw)) (by decide) (t := .boolean) (t' := .int) (by decide) (by decide)))
    have f218 := ay201.other R212 (Ne.symm ne202)
    have k219 := k209.wr R212 (Or.inl (by simp))
    have z220 := Nat.le_trans z210 (Keep.of_wr R212).1
    exact go_retV W212 rfl d10_22 (nb rfl) (nb rfl) (⟨y201, rfl, gy201, old204, k219, f215, f216, f217, f218⟩)
set_option maxRecDepth 65536 in
set_option maxHeartbeats 4000000 in
theorem rmX1_1 (l : Launch) (Z : State) (a0 : Array Value) (hw : Hw a0 Z) (b : Addr) (x : Addr) (p : Int64) (h0 : Heap) (n0 : Nat) (Z0 : n0 ≤ h0.size) (Ea : Exa Z h0 b "java/util/BitSet") (F0 : Fld Z h0 b "java/util/BitSet" "words" "[J" (.ref x)) (F1 : Fld Z h0 b "java/util/BitSet" "wordsInUse" "I" (.int (1 : Int32))) (F2 : Fld Z h0 b "java/util/BitSet" "sizeIsSticky" "Z" (.int (0 : Int32))) (ga : n0 ≤ b) (gx : n0 ≤ x) (nbx : b ≠ x) (Ax : Af Z h0 x .long 1 (fun _ => (.long p))) :
    Ct l Z K10 #[(.ref b), (.int (1 : Int32))] h0 n0 (fun v h => ∃ y : Addr, v = none ∧ n0 ≤ y ∧ h0.size ≤ y ∧ Keep h0 h [b] ∧ Fld Z h b "java/util/BitSet" "words" "[J" (.ref y) ∧ Fld Z h b "java/util/BitSet" "wordsInUse" "I" (.int (2 : Int32)) ∧ Fld Z h b "java/util/BitSet" "sizeIsSticky" "Z" (.int (0 : Int32)) ∧ Af Z h y .long 2 (fun j => if j = 0 then (.long p) else (.long (0 : Int64)))) := by
  refine Ct.of (Ls := #[.val (.ref b), .val (.int (1 : Int32)), .unset]) (plainFor_of_name (by first | decide +kernel | (simp [plainName, overriddenIn]; done))) (fun m => by first | rfl | (simp [entryFrame, mkF, argsToLocals, Value.category]; done)) ?_
  intro E T W
  refine go_iloadN (pc' := 1) W d10_0 rfl rfl ?_
  refine go_iconst (pc' := 2) (z := 1) W d10_1 rfl rfl ?_
  refine go_iaddZ (pc' := 3) (z := 2) W d10_2 (by decide) rfl ?_
  refine go_istoreN (pc' := 4) (l' := #[.val (.ref b), .val (.int (1 : Int32)), .val (.int (2 : Int32))]) W d10_3 rfl rfl ?_
  refine go_aloadN (pc' := 5) W d10_4 rfl rfl rfl ?_
  refine go_getF (pc' := 8) W (host := "") (Or.inl (w40 hw)) Via.refl F1 d10_5 rfl ?_
  intro T221 W221
  refine go_iloadN (pc' := 9) W221 d10_8 rfl rfl ?_
  refine go_icmp_ge (pt := 22) (pf := 12) W221 d10_9 (by decide) rfl rfl (fun c9_222 => ?_) (fun c9_222 => ?_)
  · exact absurd c9_222 (by decide)
  · -- pc 9 not taken
    refine go_aloadN (pc' := 13) W221 d10_12 rfl rfl rfl ?_
    refine go_iloadN (pc' := 14) W221 d10_13 rfl rfl ?_
    refine go_callP (a := b) (kc := K11) (argsL := [(.int (2 : Int32))]) (rest := []) (pc' := 17) W221 (w65 hw) (w66 hw) (w68 hw) (w67 hw) (w35 hw) (w69 hw) Ea (rmE2_1 E.l Z a0 hw b x p h0 n0 Z0 Ea F0 F1 F2 ga gx nbx Ax) (by decide) pd2 rfl rfl rfl (nb rfl) (nb rfl) (nb rfl) (nb rfl) d10_14 rfl ?_
    rintro _ T223 h223 ⟨y223, rfl, gy223, so223, K223, g223_0, g223_1, g223_2, ay223⟩ W223
    have ne224 : b ≠ y223 := Nat.ne_of_lt (Nat.lt_of_lt_of_le Ea.lt so223)
    have ne225 : x ≠ y223 := Nat.ne_of_lt (Nat.lt_of_lt_of_le Ax.lt so223)
    have old226 : h0.size ≤ y223 := Nat.le_trans (Keep.refl h0 [b]).1 so223
    have f227 := Ea.keep K223
    have k231 := (Keep.refl h0 [b]).trans K223 (allS (Or.inl (by simp)) all0)
    have z232 := Nat.le_trans Z0 K223.1
    have f233 := Ax.keep K223 (ninS (Ne.symm nbx) nin0)
    show Go E _ (Fm E T223 17 #[.val (.ref b), .val (.int (1 : Int32)), .val (.int (2 : Int32))] [])
    refine go_aloadN (pc' := 18) W223 d10_17 rfl rfl rfl ?_
    refine go_iloadN (pc' := 19) W223 d10_18 rfl rfl ?_
    refine go_putF (pc' := 22) W223 (host := "") (Or.inl (w40 hw)) Via.refl g223_1 f227 (Or.inl (w41 hw)) (w34 hw) (ty := .int) (by decide) rfl rfl ga d10_19 rfl ?_
    intro T234 h234 W234 R234
    have f235 := f227.wr R234
    have f236 := f233.other R234 (Ne.symm nbx)
    have f237 := g223_0.other R234 (Or.inr (slot_ne (Or.inl (w54 hw)) (Or.inl (w41 hw)) (by decide) (t := (.array .long)) (t' := .int) (by decide) (by decide)))
    have f238 := g223_1.same R234
    have f239 := g223_2.other R234 (Or.inr (slot_ne (Or.inl (w43 hw)) (Or.inl (w41 hw)) (by decide) (t := .boolean) (t' := .int) (by decide) (by decide)))
    have f240 := ay223.other R234 (Ne.symm ne224)
    have k241 := k231.wr R234 (Or.inl (by simp))
    have z242 := Nat.le_trans z232 (Keep.of_wr R234).1
    exact go_retV W234 rfl d10_22 (nb rfl) (nb rfl) (⟨y223, rfl, gy223, old226, k241, f237, f238, f239, f240⟩)
set_option maxRecDepth 65536 in
set_option maxHeartbeats 4000000 in
theorem rm12 (l : Launch) (Z : State) (a0 : Array Value) (hw : Hw a0 Z) (b : Addr)  (h0 : Heap) (n0 : Nat) (Z0 : n0 ≤ h0.size) (Sa : Sta Z h0 "java/util/BitSet" "$assertionsDisabled" "Z" (.int 1)) :
    Ct l Z K12 #[(.ref b)] h0 n0 (fun v h => v = none ∧ h = h0) := by
  refine Ct.of (Ls := #[.val (.ref b)]) (plainFor_of_name (by first | decide +kernel | (simp [plainName, overriddenIn]; done))) (fun m => by first | rfl | (simp [entryFrame, mkF, argsToLocals, Value.category]; done)) ?_
  intro E T W
  refine go_getS (pc' := 3) W (host := "") (Or.inl (w75 hw)) Via.refl Sa d12_0 rfl ?_
  intro T243 W243
  refine go_if_ne (pt := 37) (pf := 6) W243 d12_3 (by decide) rfl rfl (fun c3_244 => ?_) (fun c3_244 => ?_)
  · -- pc 3 taken
    refine go_getS (pc' := 40) W243 (host := "") (Or.inl (w75 hw)) Via.refl Sa d12_37 rfl ?_
    intro T245 W245
    refine go_if_ne (pt := 70) (pf := 43) W245 d12_40 (by decide) rfl rfl (fun c40_246 => ?_) (fun c40_246 => ?_)
    · -- pc 40 taken
      refine go_getS (pc' := 73) W245 (host := "") (Or.inl (w75 hw)) Via.refl Sa d12_70 rfl ?_
      intro T247 W247
      refine go_if_ne (pt := 110) (pf := 76) W247 d12_73 (by decide) rfl rfl (fun c73_248 => ?_) (fun c73_248 => ?_)
      · -- pc 73 taken
        exact go_retV W247 rfl d12_110 (nb rfl) (nb rfl) (⟨rfl, rfl⟩)
      · exact absurd c73_248 (by decide)
    · exact absurd c40_246 (by decide)
  · exact absurd c3_244 (by decide)
set_option maxRecDepth 65536 in
set_option maxHeartbeats 4000000 in
theorem rmSet0_0 (l : Launch) (Z : State) (a0 : Array Value) (hw : Hw a0 Z) (b : Addr) (x : Addr) (p : Int64) (h0 : Heap) (n0 : Nat) (Z0 : n0 ≤ h0.size) (Ea : Exa Z h0 b "java/util/BitSet") (F0 : Fld Z h0 b "java/util/BitSet" "words" "[J" (.ref x)) (F1 : Fld Z h0 b "java/util/BitSet" "wordsInUse" "I" (.int (0 : Int32))) (F2 : Fld Z h0 b "java/util/BitSet" "sizeIsSticky" "Z" (.int (0 : Int32))) (ga : n0 ≤ b) (gx : n0 ≤ x) (nbx : b ≠ x) (Ax : Af Z h0 x .long 1 (fun _ => (.long p))) (Sa : Sta Z h0 "java/util/BitSet" "$assertionsDisabled" "Z" (.int 1)) :
    Ct l Z K9 #[(.ref b), (.int (0 : Int32))] h0 n0 (fun v h => v = none ∧ Keep h0 h [b, x] ∧ Fld Z h b "java/util/BitSet" "words" "[J" (.ref x) ∧ Fld Z h b "java/util/BitSet" "wordsInUse" "I" (.int (1 : Int32)) ∧ Fld Z h b "java/util/BitSet" "sizeIsSticky" "Z" (.int (0 : Int32)) ∧ Af Z h x .long 1 (fun _ => (.long (p ||| ((1 : Int64) <<< ((0 : Int32) &&& 0x3f).toInt64))))) := by
  refine Ct.of (Ls := #[.val (.ref b), .val (.int (0 : Int32)), .unset]) (plainFor_of_name (by first | decide +kernel | (simp [plainName, overriddenIn]; done))) (fun m => by first | rfl | (simp [entryFrame, mkF, argsToLocals, Value.category]; done)) ?_
  intro E T W
  refine go_iloadN (pc' := 1) W d9_0 rfl rfl ?_
  refine go_if_ge (pt := 31) (pf := 4) W d9_1 (by decide) rfl rfl (fun c1_249 => ?_) (fun c1_249 => ?_)
  · -- pc 1 taken
    refine go_iloadN (pc' := 32) W d9_31 rfl rfl ?_
    refine go_callS (kc := K8) (argsL := [(.int (0 : Int32))]) (rest := []) (pc' := 35) W (w49 hw) (w50 hw) (w35 hw) (w51 hw) (rmL8_0 E.l Z a0 hw h0 n0 Z0) (by decide) pd1 rfl rfl rfl (nb rfl) (nb rfl) (nb rfl) (nb rfl) d9_32 rfl ?_
    rintro _ T250 h250 ⟨rfl, q250⟩ W250
    replace W250 := W250.sub q250
    show Go E _ (Fm E T250 35 #[.val (.ref b), .val (.int (0 : Int32)), .unset] [(.int (0 : Int32))])
    refine go_istoreN (pc' := 36) (l' := #[.val (.ref b), .val (.int (0 : Int32)), .val (.int (0 : Int32))]) W250 d9_35 rfl rfl ?_
    refine go_aloadN (pc' := 37) W250 d9_36 rfl rfl rfl ?_
    refine go_iloadN (pc' := 38) W250 d9_37 rfl rfl ?_
    refine go_callP (a := b) (kc := K10) (argsL := [(.int (0 : Int32))]) (rest := []) (pc' := 41) W250 (w60 hw) (w61 hw) (w63 hw) (w62 hw) (w35 hw) (w64 hw) Ea (rmX0_0 E.l Z a0 hw b x p h0 n0 Z0 Ea F0 F1 F2 ga gx nbx Ax) (by decide) pd2 rfl rfl rfl (nb rfl) (nb rfl) (nb rfl) (nb rfl) d9_38 rfl ?_
    rintro _ T251 h251 ⟨rfl, K251, g251_0, g251_1, g251_2, ay251⟩ W251
    have f252 := Ea.keep K251
    have k256 := (Keep.refl h0 [b, x]).trans K251 (allS (Or.inl (by simp)) all0)
    have z257 := Nat.le_trans Z0 K251.1
    have f258 := Ax.keep K251 (ninS (Ne.symm nbx) nin0)
    have f259 := Sta.keepN Sa K251 (allS (Ns.exa Ea) all0)
    show Go E _ (Fm E T251 41 #[.val (.ref b), .val (.int (0 : Int32)), .val (.int (0 : Int32))] [])
    refine go_aloadN (pc' := 42) W251 d9_41 rfl rfl rfl ?_
    refine go_getF (pc' := 45) W251 (host := "") (Or.inl (w53 hw)) Via.refl g251_0 d9_42 rfl ?_
    intro T260 W260
    refine go_iloadN (pc' := 46) W260 d9_45 rfl rfl ?_
    refine go_dup2 (pc' := 47) W260 d9_46 rfl rfl rfl ?_
    refine go_laloadF (pc' := 48) (i := 0) (v := (.long p)) W260 ay251 (by decide) (by decide) rfl d9_47 rfl ?_
    refine go_lconst (pc' := 49) (z := 1) W260 d9_48 rfl rfl ?_
    refine go_iloadN (pc' := 50) W260 d9_49 rfl rfl ?_
    refine go_lshl (pc' := 51) W260 d9_50 rfl ?_
    refine go_lor (pc' := 52) W260 d9_51 rfl ?_
    refine go_stJF (pc' := 53) (i := 0) W260 ay251 (by decide) (by decide) gx d9_52 rfl ?_
    intro T261 h261 W261 R261 A261
    have f262 := f252.wr R261
    have f264 := f259.wr R261
    have f265 := g251_0.other R261 (Or.inl nbx)
    have f266 := g251_1.other R261 (Or.inl nbx)
    have f267 := g251_2.other R261 (Or.inl nbx)
    have k268 := k256.wr R261 (Or.inl (by simp))
    have z269 := Nat.le_trans z257 (Keep.of_wr R261).1
    refine go_aloadN (pc' := 54) W261 d9_53 rfl rfl rfl ?_
    refine go_callP (a := b) (kc := K12) (argsL := []) (rest := []) (pc' := 57) W261 (w70 hw) (w71 hw) (w73 hw) (w72 hw) (w35 hw) (w74 hw) f262 (rm12 E.l Z a0 hw b h261 n0 z269 f264) (by decide) pd0 rfl rfl rfl (nb rfl) (nb rfl) (nb rfl) (nb rfl) d9_54 rfl ?_
    rintro _ T270 h270 ⟨rfl, q270⟩ W270
    replace W270 := W270.sub q270
    show Go E _ (Fm E T270 57 #[.val (.ref b), .val (.int (0 : Int32)), .val (.int (0 : Int32))] [])
    exact go_retV W270 rfl d9_57 (nb rfl) (nb rfl) (⟨rfl, k268, f265, f266, f267, (A261.congr (fun j hj => by match j, hj with | 0, _ => rfl))⟩)
  · exact absurd c1_249 (by decide)
set_option maxRecDepth 65536 in
set_option maxHeartbeats 4000000 in
theorem rmSet0_1 (l : Launch) (Z : State) (a0 : Array Value) (hw : Hw a0 Z) (b : Addr) (x : Addr) (p : Int64) (h0 : Heap) (n0 : Nat) (Z0 : n0 ≤ h0.size) (Ea : Exa Z h0 b "java/util/BitSet") (F0 : Fld Z h0 b "java/util/BitSet" "words" "[J" (.ref x)) (F1 : Fld Z h0 b "java/util/BitSet" "wordsInUse" "I" (.int (1 : Int32))) (F2 : Fld Z h0 b "java/util/BitSet" "sizeIsSticky" "Z" (.int (0 : Int32))) (ga : n0 ≤ b) (gx : n0 ≤ x) (nbx : b ≠ x) (Ax : Af Z h0 x .long 1 (fun _ => (.long p))) (Sa : Sta Z h0 "java/util/BitSet" "$assertionsDisabled" "Z" (.int 1)) :
    Ct l Z K9 #[(.ref b), (.int (0 : Int32))] h0 n0 (fun v h => v = none ∧ Keep h0 h [b, x] ∧ Fld Z h b "java/util/BitSet" "words" "[J" (.ref x) ∧ Fld Z h b "java/util/BitSet" "wordsInUse" "I" (.int (1 : Int32)) ∧ Fld Z h b "java/util/BitSet" "sizeIsSticky" "Z" (.int (0 : Int32)) ∧ Af Z h x .long 1 (fun _ => (.long (p ||| ((1 : Int64) <<< ((0 : Int32) &&& 0x3f).toInt64))))) := by
  refine Ct.of (Ls := #[.val (.ref b), .val (.int (0 : Int32)), .unset]) (plainFor_of_name (by first | decide +kernel | (simp [plainName, overriddenIn]; done))) (fun m => by first | rfl | (simp [entryFrame, mkF, argsToLocals, Value.category]; done)) ?_
  intro E T W
  refine go_iloadN (pc' := 1) W d9_0 rfl rfl ?_
  refine go_if_ge (pt := 31) (pf := 4) W d9_1 (by decide) rfl rfl (fun c1_271 => ?_) (fun c1_271 => ?_)
  · -- pc 1 taken
    refine go_iloadN (pc' := 32) W d9_31 rfl rfl ?_
    refine go_callS (kc := K8) (argsL := [(.int (0 : Int32))]) (rest := []) (pc' := 35) W (w49 hw) (w50 hw) (w35 hw) (w51 hw) (rmL8_0 E.l Z a0 hw h0 n0 Z0) (by decide) pd1 rfl rfl rfl (nb rfl) (nb rfl) (nb rfl) (nb rfl) d9_32 rfl ?_
    rintro _ T272 h272 ⟨rfl, q272⟩ W272
    replace W272 := W272.sub q272
    show Go E _ (Fm E T272 35 #[.val (.ref b), .val (.int (0 : Int32)), .unset] [(.int (0 : Int32))])
    refine go_istoreN (pc' := 36) (l' := #[.val (.ref b), .val (.int (0 : Int32)), .val (.int (0 : Int32))]) W272 d9_35 rfl rfl ?_
    refine go_aloadN (pc' := 37) W272 d9_36 rfl rfl rfl ?_
    refine go_iloadN (pc' := 38) W272 d9_37 rfl rfl ?_
    refine go_callP (a := b) (kc := K10) (argsL := [(.int (0 : Int32))]) (rest := []) (pc' := 41) W272 (w60 hw) (w61 hw) (w63 hw) (w62 hw) (w35 hw) (w64 hw) Ea (rmX0_1 E.l Z a0 hw b x p h0 n0 Z0 Ea F0 F1 F2 ga gx nbx Ax) (by decide) pd2 rfl rfl rfl (nb rfl) (nb rfl) (nb rfl) (nb rfl) d9_38 rfl ?_
    rintro _ T273 h273 ⟨rfl, K273, g273_0, g273_1, g273_2, ay273⟩ W273
    have f274 := Ea.keep K273
    have k278 := (Keep.refl h0 [b, x]).trans K273 (allS (Or.inl (by simp)) all0)
    have z279 := Nat.le_trans Z0 K273.1
    have f280 := Ax.keep K273 (ninS (Ne.symm nbx) nin0)
    have f281 := Sta.keepN Sa K273 (allS (Ns.exa Ea) all0)
    show Go E _ (Fm E T273 41 #[.val (.ref b), .val (.int (0 : Int32)), .val (.int (0 : Int32))] [])
    refine go_aloadN (pc' := 42) W273 d9_41 rfl rfl rfl ?_
    refine go_getF (pc' := 45) W273 (host := "") (Or.inl (w53 hw)) Via.refl g273_0 d9_42 rfl ?_
    intro T282 W282
    refine go_iloadN (pc' := 46) W282 d9_45 rfl rfl ?_
    refine go_dup2 (pc' := 47) W282 d9_46 rfl rfl rfl ?_
    refine go_laloadF (pc' := 48) (i := 0) (v := (.long p)) W282 ay273 (by decide) (by decide) rfl d9_47 rfl ?_
    refine go_lconst (pc' := 49) (z := 1) W282 d9_48 rfl rfl ?_
    refine go_iloadN (pc' := 50) W282 d9_49 rfl rfl ?_
    refine go_lshl (pc' := 51) W282 d9_50 rfl ?_
    refine go_lor (pc' := 52) W282 d9_51 rfl ?_
    refine go_stJF (pc' := 53) (i := 0) W282 ay273 (by decide) (by decide) gx d9_52 rfl ?_
    intro T283 h283 W283 R283 A283
    have f284 := f274.wr R283
    have f286 := f281.wr R283
    have f287 := g273_0.other R283 (Or.inl nbx)
    have f288 := g273_1.other R283 (Or.inl nbx)
    have f289 := g273_2.other R283 (Or.inl nbx)
    have k290 := k278.wr R283 (Or.inl (by simp))
    have z291 := Nat.le_trans z279 (Keep.of_wr R283).1
    refine go_aloadN (pc' := 54) W283 d9_53 rfl rfl rfl ?_
    refine go_callP (a := b) (kc := K12) (argsL := []) (rest := []) (pc' := 57) W283 (w70 hw) (w71 hw) (w73 hw) (w72 hw) (w35 hw) (w74 hw) f284 (rm12 E.l Z a0 hw b h283 n0 z291 f286) (by decide) pd0 rfl rfl rfl (nb rfl) (nb rfl) (nb rfl) (nb rfl) d9_54 rfl ?_
    rintro _ T292 h292 ⟨rfl, q292⟩ W292
    replace W292 := W292.sub q292
    show Go E _ (Fm E T292 57 #[.val (.ref b), .val (.int (0 : Int32)), .val (.int (0 : Int32))] [])
    exact go_retV W292 rfl d9_57 (nb rfl) (nb rfl) (⟨rfl, k290, f287, f288, f289, (A283.congr (fun j hj => by match j, hj with | 0, _ => rfl))⟩)
  · exact absurd c1_271 (by decide)
set_option maxRecDepth 65536 in
set_option maxHeartbeats 4000000 in
theorem rmSet1_0 (l : Launch) (Z : State) (a0 : Array Value) (hw : Hw a0 Z) (b : Addr) (x : Addr) (p : Int64) (h0 : Heap) (n0 : Nat) (Z0 : n0 ≤ h0.size) (Ea : Exa Z h0 b "java/util/BitSet") (F0 : Fld Z h0 b "java/util/BitSet" "words" "[J" (.ref x)) (F1 : Fld Z h0 b "java/util/BitSet" "wordsInUse" "I" (.int (0 : Int32))) (F2 : Fld Z h0 b "java/util/BitSet" "sizeIsSticky" "Z" (.int (0 : Int32))) (ga : n0 ≤ b) (gx : n0 ≤ x) (nbx : b ≠ x) (Ax : Af Z h0 x .long 1 (fun _ => (.long p))) (Sa : Sta Z h0 "java/util/BitSet" "$assertionsDisabled" "Z" (.int 1)) :
    Ct l Z K9 #[(.ref b), (.int (1 : Int32))] h0 n0 (fun v h => v = none ∧ Keep h0 h [b, x] ∧ Fld Z h b "java/util/BitSet" "words" "[J" (.ref x) ∧ Fld Z h b "java/util/BitSet" "wordsInUse" "I" (.int (1 : Int32)) ∧ Fld Z h b "java/util/BitSet" "sizeIsSticky" "Z" (.int (0 : Int32)) ∧ Af Z h x .long 1 (fun _ => (.long (p ||| ((1 : Int64) <<< ((1 : Int32) &&& 0x3f).toInt64))))) := by
  refine Ct.of (Ls := #[.val (.ref b), .val (.int (1 : Int32)), .unset]) (plainFor_of_name (by first | decide +kernel | (simp [plainName, overriddenIn]; done))) (fun m => by first | rfl | (simp [entryFrame, mkF, argsToLocals, Value.category]; done)) ?_
  intro E T W
  refine go_iloadN (pc' := 1) W d9_0 rfl rfl ?_
  refine go_if_ge (pt := 31) (pf := 4) W d9_1 (by decide) rfl rfl (fun c1_293 => ?_) (fun c1_293 => ?_)
  · -- pc 1 taken
    refine go_iloadN (pc' := 32) W d9_31 rfl rfl ?_
    refine go_callS (kc := K8) (argsL := [(.int (1 : Int32))]) (rest := []) (pc' := 35) W (w49 hw) (w50 hw) (w35 hw) (w51 hw) (rmL8_1 E.l Z a0 hw h0 n0 Z0) (by decide) pd1 rfl rfl rfl (nb rfl) (nb rfl) (nb rfl) (nb rfl) d9_32 rfl ?_
    rintro _ T294 h294 ⟨rfl, q294⟩ W294
    replace W294 := W294.sub q294
    show Go E _ (Fm E T294 35 #[.val (.ref b), .val (.int (1 : Int32)), .unset] [(.int (0 : Int32))])
    refine go_istoreN (pc' := 36) (l' := #[.val (.ref b), .val (.int (1 : Int32)), .val (.int (0 : Int32))]) W294 d9_35 rfl rfl ?_
    refine go_aloadN (pc' := 37) W294 d9_36 rfl rfl rfl ?_
    refine go_iloadN (pc' := 38) W294 d9_37 rfl rfl ?_
    refine go_callP (a := b) (kc := K10) (argsL := [(.int (0 : Int32))]) (rest := []) (pc' := 41) W294 (w60 hw) (w61 hw) (w63 hw) (w62 hw) (w35 hw) (w64 hw) Ea (rmX0_0 E.l Z a0 hw b x p h0 n0 Z0 Ea F0 F1 F2 ga gx nbx Ax) (by decide) pd2 rfl rfl rfl (nb rfl) (nb rfl) (nb rfl) (nb rfl) d9_38 rfl ?_
    rintro _ T295 h295 ⟨rfl, K295, g295_0, g295_1, g295_2, ay295⟩ W295
    have f296 := Ea.keep K295
    have k300 := (Keep.refl h0 [b, x]).trans K295 (allS (Or.inl (by simp)) all0)
    have z301 := Nat.le_trans Z0 K295.1
    have f302 := Ax.keep K295 (ninS (Ne.symm nbx) nin0)
    have f303 := Sta.keepN Sa K295 (allS (Ns.exa Ea) all0)
    show Go E _ (Fm E T295 41 #[.val (.ref b), .val (.int (1 : Int32)), .val (.int (0 : Int32))] [])
    refine go_aloadN (pc' := 42) W295 d9_41 rfl rfl rfl ?_
    refine go_getF (pc' := 45) W295 (host := "") (Or.inl (w53 hw)) Via.refl g295_0 d9_42 rfl ?_
    intro T304 W304
    refine go_iloadN (pc' := 46) W304 d9_45 rfl rfl ?_
    refine go_dup2 (pc' := 47) W304 d9_46 rfl rfl rfl ?_
    refine go_laloadF (pc' := 48) (i := 0) (v := (.long p)) W304 ay295 (by decide) (by decide) rfl d9_47 rfl ?_
    refine go_lconst (pc' := 49) (z := 1) W304 d9_48 rfl rfl ?_
    refine go_iloadN (pc' := 50) W304 d9_49 rfl rfl ?_
    refine go_lshl (pc' := 51) W304 d9_50 rfl ?_
    refine go_lor (pc' := 52) W304 d9_51 rfl ?_
    refine go_stJF (pc' := 53) (i := 0) W304 ay295 (by decide) (by decide) gx d9_52 rfl ?_
    intro T305 h305 W305 R305 A305
    have f306 := f296.wr R305
    have f308 := f303.wr R305
    have f309 := g295_0.other R305 (Or.inl nbx)
    have f310 := g295_1.other R305 (Or.inl nbx)
    have f311 := g295_2.other R305 (Or.inl nbx)
    have k312 := k300.wr R305 (Or.inl (by simp))
    have z313 := Nat.le_trans z301 (Keep.of_wr R305).1
    refine go_aloadN (pc' := 54) W305 d9_53 rfl rfl rfl ?_
    refine go_callP (a := b) (kc := K12) (argsL := []) (rest := []) (pc' := 57) W305 (w70 hw) (w71 hw) (w73 hw) (w72 hw) (w35 hw) (w74 hw) f306 (rm12 E.l Z a0 hw b h305 n0 z313 f308) (by decide) pd0 rfl rfl rfl (nb rfl) (nb rfl) (nb rfl) (nb rfl) d9_54 rfl ?_
    rintro _ T314 h314 ⟨rfl, q314⟩ W314
    replace W314 := W314.sub q314
    show Go E _ (Fm E T314 57 #[.val (.ref b), .val (.int (1 : Int32)), .val (.int (0 : Int32))] [])
    exact go_retV W314 rfl d9_57 (nb rfl) (nb rfl) (⟨rfl, k312, f309, f310, f311, (A305.congr (fun j hj => by match j, hj with | 0, _ => rfl))⟩)
  · exact absurd c1_293 (by decide)
set_option maxRecDepth 65536 in
set_option maxHeartbeats 4000000 in
theorem rmSet1_1 (l : Launch) (Z : State) (a0 : Array Value) (hw : Hw a0 Z) (b : Addr) (x : Addr) (p : Int64) (h0 : Heap) (n0 : Nat) (Z0 : n0 ≤ h0.size) (Ea : Exa Z h0 b "java/util/BitSet") (F0 : Fld Z h0 b "java/util/BitSet" "words" "[J" (.ref x)) (F1 : Fld Z h0 b "java/util/BitSet" "wordsInUse" "I" (.int (1 : Int32))) (F2 : Fld Z h0 b "java/util/BitSet" "sizeIsSticky" "Z" (.int (0 : Int32))) (ga : n0 ≤ b) (gx : n0 ≤ x) (nbx : b ≠ x) (Ax : Af Z h0 x .long 1 (fun _ => (.long p))) (Sa : Sta Z h0 "java/util/BitSet" "$assertionsDisabled" "Z" (.int 1)) :
    Ct l Z K9 #[(.ref b), (.int (1 : Int32))] h0 n0 (fun v h => v = none ∧ Keep h0 h [b, x] ∧ Fld Z h b "java/util/BitSet" "words" "[J" (.ref x) ∧ Fld Z h b "java/util/BitSet" "wordsInUse" "I" (.int (1 : Int32)) ∧ Fld Z h b "java/util/BitSet" "sizeIsSticky" "Z" (.int (0 : Int32)) ∧ Af Z h x .long 1 (fun _ => (.long (p ||| ((1 : Int64) <<< ((1 : Int32) &&& 0x3f).toInt64))))) := by
  refine Ct.of (Ls := #[.val (.ref b), .val (.int (1 : Int32)), .unset]) (plainFor_of_name (by first | decide +kernel | (simp [plainName, overriddenIn]; done))) (fun m => by first | rfl | (simp [entryFrame, mkF, argsToLocals, Value.category]; done)) ?_
  intro E T W
  refine go_iloadN (pc' := 1) W d9_0 rfl rfl ?_
  refine go_if_ge (pt := 31) (pf := 4) W d9_1 (by decide) rfl rfl (fun c1_315 => ?_) (fun c1_315 => ?_)
  · -- pc 1 taken
    refine go_iloadN (pc' := 32) W d9_31 rfl rfl ?_
    refine go_callS (kc := K8) (argsL := [(.int (1 : Int32))]) (rest := []) (pc' := 35) W (w49 hw) (w50 hw) (w35 hw) (w51 hw) (rmL8_1 E.l Z a0 hw h0 n0 Z0) (by decide) pd1 rfl rfl rfl (nb rfl) (nb rfl) (nb rfl) (nb rfl) d9_32 rfl ?_
    rintro _ T316 h316 ⟨rfl, q316⟩ W316
    replace W316 := W316.sub q316
    show Go E _ (Fm E T316 35 #[.val (.ref b), .val (.int (1 : Int32)), .unset] [(.int (0 : Int32))])
    refine go_istoreN (pc' := 36) (l' := #[.val (.ref b), .val (.int (1 : Int32)), .val (.int (0 : Int32))]) W316 d9_35 rfl rfl ?_
    refine go_aloadN (pc' := 37) W316 d9_36 rfl rfl rfl ?_
    refine go_iloadN (pc' := 38) W316 d9_37 rfl rfl ?_
    refine go_callP (a := b) (kc := K10) (argsL := [(.int (0 : Int32))]) (rest := []) (pc' := 41) W316 (w60 hw) (w61 hw) (w63 hw) (w62 hw) (w35 hw) (w64 hw) Ea (rmX0_1 E.l Z a0 hw b x p h0 n0 Z0 Ea F0 F1 F2 ga gx nbx Ax) (by decide) pd2 rfl rfl rfl (nb rfl) (nb rfl) (nb rfl) (nb rfl) d9_38 rfl ?_
    rintro _ T317 h317 ⟨rfl, K317, g317_0, g317_1, g317_2, ay317⟩ W317
    have f318 := Ea.keep K317
    have k322 := (Keep.refl h0 [b, x]).trans K317 (allS (Or.inl (by simp)) all0)
    have z323 := Nat.le_trans Z0 K317.1
    have f324 := Ax.keep K317 (ninS (Ne.symm nbx) nin0)
    have f325 := Sta.keepN Sa K317 (allS (Ns.exa Ea) all0)
    show Go E _ (Fm E T317 41 #[.val (.ref b), .val (.int (1 : Int32)), .val (.int (0 : Int32))] [])
    refine go_aloadN (pc' := 42) W317 d9_41 rfl rfl rfl ?_
    refine go_getF (pc' := 45) W317 (host := "") (Or.inl (w53 hw)) Via.refl g317_0 d9_42 rfl ?_
    intro T326 W326
    refine go_iloadN (pc' := 46) W326 d9_45 rfl rfl ?_
    refine go_dup2 (pc' := 47) W326 d9_46 rfl rfl rfl ?_
    refine go_laloadF (pc' := 48) (i := 0) (v := (.long p)) W326 ay317 (by decide) (by decide) rfl d9_47 rfl ?_
    refine go_lconst (pc' := 49) (z := 1) W326 d9_48 rfl rfl ?_
    refine go_iloadN (pc' := 50) W326 d9_49 rfl rfl ?_
    refine go_lshl (pc' := 51) W326 d9_50 rfl ?_
    refine go_lor (pc' := 52) W326 d9_51 rfl ?_
    refine go_stJF (pc' := 53) (i := 0) W326 ay317 (by decide) (by decide) gx d9_52 rfl ?_
    intro T327 h327 W327 R327 A327
    have f328 := f318.wr R327
    have f330 := f325.wr R327
    have f331 := g317_0.other R327 (Or.inl nbx)
    have f332 := g317_1.other R327 (Or.inl nbx)
    have f333 := g317_2.other R327 (Or.inl nbx)
    have k334 := k322.wr R327 (Or.inl (by simp))
    have z335 := Nat.le_trans z323 (Keep.of_wr R327).1
    refine go_aloadN (pc' := 54) W327 d9_53 rfl rfl rfl ?_
    refine go_callP (a := b) (kc := K12) (argsL := []) (rest := []) (pc' := 57) W327 (w70 hw) (w71 hw) (w73 hw) (w72 hw) (w35 hw) (w74 hw) f328 (rm12 E.l Z a0 hw b h327 n0 z335 f330) (by decide) pd0 rfl rfl rfl (nb rfl) (nb rfl) (nb rfl) (nb rfl) d9_54 rfl ?_
    rintro _ T336 h336 ⟨rfl, q336⟩ W336
    replace W336 := W336.sub q336
    show Go E _ (Fm E T336 57 #[.val (.ref b), .val (.int (1 : Int32)), .val (.int (0 : Int32))] [])
    exact go_retV W336 rfl d9_57 (nb rfl) (nb rfl) (⟨rfl, k334, f331, f332, f333, (A327.congr (fun j hj => by match j, hj with | 0, _ => rfl))⟩)
  · exact absurd c1_315 (by decide)
set_option maxRecDepth 65536 in
set_option maxHeartbeats 4000000 in
theorem rmSet5_0 (l : Launch) (Z : State) (a0 : Array Value) (hw : Hw a0 Z) (b : Addr) (x : Addr) (p : Int64) (h0 : Heap) (n0 : Nat) (Z0 : n0 ≤ h0.size) (Ea : Exa Z h0 b "java/util/BitSet") (F0 : Fld Z h0 b "java/util/BitSet" "words" "[J" (.ref x)) (F1 : Fld Z h0 b "java/util/BitSet" "wordsInUse" "I" (.int (0 : Int32))) (F2 : Fld Z h0 b "java/util/BitSet" "sizeIsSticky" "Z" (.int (0 : Int32))) (ga : n0 ≤ b) (gx : n0 ≤ x) (nbx : b ≠ x) (Ax : Af Z h0 x .long 1 (fun _ => (.long p))) (Sa : Sta Z h0 "java/util/BitSet" "$assertionsDisabled" "Z" (.int 1)) :
    Ct l Z K9 #[(.ref b), (.int (5 : Int32))] h0 n0 (fun v h => v = none ∧ Keep h0 h [b, x] ∧ Fld Z h b "java/util/BitSet" "words" "[J" (.ref x) ∧ Fld Z h b "java/util/BitSet" "wordsInUse" "I" (.int (1 : Int32)) ∧ Fld Z h b "java/util/BitSet" "sizeIsSticky" "Z" (.int (0 : Int32)) ∧ Af Z h x .long 1 (fun _ => (.long (p ||| ((1 : Int64) <<< ((5 : Int32) &&& 0x3f).toInt64))))) := by
  refine Ct.of (Ls := #[.val (.ref b), .val (.int (5 : Int32)), .unset]) (plainFor_of_name (by first | decide +kernel | (simp [plainName, overriddenIn]; done))) (fun m => by first | rfl | (simp [entryFrame, mkF, argsToLocals, Value.category]; done)) ?_
  intro E T W
  refine go_iloadN (pc' := 1) W d9_0 rfl rfl ?_
  refine go_if_ge (pt := 31) (pf := 4) W d9_1 (by decide) rfl rfl (fun c1_337 => ?_) (fun c1_337 => ?_)
  · -- pc 1 taken
    refine go_iloadN (pc' := 32) W d9_31 rfl rfl ?_
    refine go_callS (kc := K8) (argsL := [(.int (5 : Int32))]) (rest := []) (pc' := 35) W (w49 hw) (w50 hw) (w35 hw) (w51 hw) (rmL8_5 E.l Z a0 hw h0 n0 Z0) (by decide) pd1 rfl rfl rfl (nb rfl) (nb rfl) (nb rfl) (nb rfl) d9_32 rfl ?_
    rintro _ T338 h338 ⟨rfl, q338⟩ W338
    replace W338 := W338.sub q338
    show Go E _ (Fm E T338 35 #[.val (.ref b), .val (.int (5 : Int32)), .unset] [(.int (0 : Int32))])
    refine go_istoreN (pc' := 36) (l' := #[.val (.ref b), .val (.int (5 : Int32)), .val (.int (0 : Int32))]) W338 d9_35 rfl rfl ?_
    refine go_aloadN (pc' := 37) W338 d9_36 rfl rfl rfl ?_
    refine go_iloadN (pc' := 38) W338 d9_37 rfl rfl ?_
    refine go_callP (a := b) (kc := K10) (argsL := [(.int (0 : Int32))]) (rest := []) (pc' := 41) W338 (w60 hw) (w61 hw) (w63 hw) (w62 hw) (w35 hw) (w64 hw) Ea (rmX0_0 E.l Z a0 hw b x p h0 n0 Z0 Ea F0 F1 F2 ga gx nbx Ax) (by decide) pd2 rfl rfl rfl (nb rfl) (nb rfl) (nb rfl) (nb rfl) d9_38 rfl ?_
    rintro _ T339 h339 ⟨rfl, K339, g339_0, g339_1, g339_2, ay339⟩ W339
    have f340 := Ea.keep K339
    have k344 := (Keep.refl h0 [b, x]).trans K339 (allS (Or.inl (by simp)) all0)
    have z345 := Nat.le_trans Z0 K339.1
    have f346 := Ax.keep K339 (ninS (Ne.symm nbx) nin0)
    have f347 := Sta.keepN Sa K339 (allS (Ns.exa Ea) all0)
    show Go E _ (Fm E T339 41 #[.val (.ref b), .val (.int (5 : Int32)), .val (.int (0 : Int32))] [])
    refine go_aloadN (pc' := 42) W339 d9_41 rfl rfl rfl ?_
    refine go_getF (pc' := 45) W339 (host := "") (Or.inl (w53 hw)) Via.refl g339_0 d9_42 rfl ?_
    intro T348 W348
    refine go_iloadN (pc' := 46) W348 d9_45 rfl rfl ?_
    refine go_dup2 (pc' := 47) W348 d9_46 rfl rfl rfl ?_
    refine go_laloadF (pc' := 48) (i := 0) (v := (.long p)) W348 ay339 (by decide) (by decide) rfl d9_47 rfl ?_
    refine go_lconst (pc' := 49) (z := 1) W348 d9_48 rfl rfl ?_
    refine go_iloadN (pc' := 50) W348 d9_49 rfl rfl ?_
    refine go_lshl (pc' := 51) W348 d9_50 rfl ?_
    refine go_lor (pc' := 52) W348 d9_51 rfl ?_
    refine go_stJF (pc' := 53) (i := 0) W348 ay339 (by decide) (by decide) gx d9_52 rfl ?_
    intro T349 h349 W349 R349 A349
    have f350 := f340.wr R349
    have f352 := f347.wr R349
    have f353 := g339_0.other R349 (Or.inl nbx)
    have f354 := g339_1.other R349 (Or.inl nbx)
    have f355 := g339_2.other R349 (Or.inl nbx)
    have k356 := k344.wr R349 (Or.inl (by simp))
    have z357 := Nat.le_trans z345 (Keep.of_wr R349).1
    refine go_aloadN (pc' := 54) W349 d9_53 rfl rfl rfl ?_
    refine go_callP (a := b) (kc := K12) (argsL := []) (rest := []) (pc' := 57) W349 (w70 hw) (w71 hw) (w73 hw) (w72 hw) (w35 hw) (w74 hw) f350 (rm12 E.l Z a0 hw b h349 n0 z357 f352) (by decide) pd0 rfl rfl rfl (nb rfl) (nb rfl) (nb rfl) (nb rfl) d9_54 rfl ?_
    rintro _ T358 h358 ⟨rfl, q358⟩ W358
    replace W358 := W358.sub q358
    show Go E _ (Fm E T358 57 #[.val (.ref b), .val (.int (5 : Int32)), .val (.int (0 : Int32))] [])
    exact go_retV W358 rfl d9_57 (nb rfl) (nb rfl) (⟨rfl, k356, f353, f354, f355, (A349.congr (fun j hj => by match j, hj with | 0, _ => rfl))⟩)
  · exact absurd c1_337 (by decide)
set_option maxRecDepth 65536 in
set_option maxHeartbeats 4000000 in
theorem rmSet5_1 (l : Launch) (Z : State) (a0 : Array Value) (hw : Hw a0 Z) (b : Addr) (x : Addr) (p : Int64) (h0 : Heap) (n0 : Nat) (Z0 : n0 ≤ h0.size) (Ea : Exa Z h0 b "java/util/BitSet") (F0 : Fld Z h0 b "java/util/BitSet" "words" "[J" (.ref x)) (F1 : Fld Z h0 b "java/util/BitSet" "wordsInUse" "I" (.int (1 : Int32))) (F2 : Fld Z h0 b "java/util/BitSet" "sizeIsSticky" "Z" (.int (0 : Int32))) (ga : n0 ≤ b) (gx : n0 ≤ x) (nbx : b ≠ x) (Ax : Af Z h0 x .long 1 (fun _ => (.long p))) (Sa : Sta Z h0 "java/util/BitSet" "$assertionsDisabled" "Z" (.int 1)) :
    Ct l Z K9 #[(.ref b), (.int (5 : Int32))] h0 n0 (fun v h => v = none ∧ Keep h0 h [b, x] ∧ Fld Z h b "java/util/BitSet" "words" "[J" (.ref x) ∧ Fld Z h b "java/util/BitSet" "wordsInUse" "I" (.int (1 : Int32)) ∧ Fld Z h b "java/util/BitSet" "sizeIsSticky" "Z" (.int (0 : Int32)) ∧ Af Z h x .long 1 (fun _ => (.long (p ||| ((1 : Int64) <<< ((5 : Int32) &&& 0x3f).toInt64))))) := by
  refine Ct.of (Ls := #[.val (.ref b), .val (.int (5 : Int32)), .unset]) (plainFor_of_name (by first | decide +kernel | (simp [plainName, overriddenIn]; done))) (fun m => by first | rfl | (simp [entryFrame, mkF, argsToLocals, Value.category]; done)) ?_
  intro E T W
  refine go_iloadN (pc' := 1) W d9_0 rfl rfl ?_
  refine go_if_ge (pt := 31) (pf := 4) W d9_1 (by decide) rfl rfl (fun c1_359 => ?_) (fun c1_359 => ?_)
  · -- pc 1 taken
    refine go_iloadN (pc' := 32) W d9_31 rfl rfl ?_
    refine go_callS (kc := K8) (argsL := [(.int (5 : Int32))]) (rest := []) (pc' := 35) W (w49 hw) (w50 hw) (w35 hw) (w51 hw) (rmL8_5 E.l Z a0 hw h0 n0 Z0) (by decide) pd1 rfl rfl rfl (nb rfl) (nb rfl) (nb rfl) (nb rfl) d9_32 rfl ?_
    rintro _ T360 h360 ⟨rfl, q360⟩ W360
    replace W360 := W360.sub q360
    show Go E _ (Fm E T360 35 #[.val (.ref b), .val (.int (5 : Int32)), .unset] [(.int (0 : Int32))])
    refine go_istoreN (pc' := 36) (l' := #[.val (.ref b), .val (.int (5 : Int32)), .val (.int (0 : Int32))]) W360 d9_35 rfl rfl ?_
    refine go_aloadN (pc' := 37) W360 d9_36 rfl rfl rfl ?_
    refine go_iloadN (pc' := 38) W360 d9_37 rfl rfl ?_
    refine go_callP (a := b) (kc := K10) (argsL := [(.int (0 : Int32))]) (rest := []) (pc' := 41) W360 (w60 hw) (w61 hw) (w63 hw) (w62 hw) (w35 hw) (w64 hw) Ea (rmX0_1 E.l Z a0 hw b x p h0 n0 Z0 Ea F0 F1 F2 ga gx nbx Ax) (by decide) pd2 rfl rfl rfl (nb rfl) (nb rfl) (nb rfl) (nb rfl) d9_38 rfl ?_
    rintro _ T361 h361 ⟨rfl, K361, g361_0, g361_1, g361_2, ay361⟩ W361
    have f362 := Ea.keep K361
    have k366 := (Keep.refl h0 [b, x]).trans K361 (allS (Or.inl (by simp)) all0)
    have z367 := Nat.le_trans Z0 K361.1
    have f368 := Ax.keep K361 (ninS (Ne.symm nbx) nin0)
    have f369 := Sta.keepN Sa K361 (allS (Ns.exa Ea) all0)
    show Go E _ (Fm E T361 41 #[.val (.ref b), .val (.int (5 : Int32)), .val (.int (0 : Int32))] [])
    refine go_aloadN (pc' := 42) W361 d9_41 rfl rfl rfl ?_
    refine go_getF (pc' := 45) W361 (host := "") (Or.inl (w53 hw)) Via.refl g361_0 d9_42 rfl ?_
    intro T370 W370
    refine go_iloadN (pc' := 46) W370 d9_45 rfl rfl ?_
    refine go_dup2 (pc' := 47) W370 d9_46 rfl rfl rfl ?_
    refine go_laloadF (pc' := 48) (i := 0) (v := (.long p)) W370 ay361 (by decide) (by decide) rfl d9_47 rfl ?_
    refine go_lconst (pc' := 49) (z := 1) W370 d9_48 rfl rfl ?_
    refine go_iloadN (pc' := 50) W370 d9_49 rfl rfl ?_
    refine go_lshl (pc' := 51) W370 d9_50 rfl ?_
    refine go_lor (pc' := 52) W370 d9_51 rfl ?_
    refine go_stJF (pc' := 53) (i := 0) W370 ay361 (by decide) (by decide) gx d9_52 rfl ?_
    intro T371 h371 W371 R371 A371
    have f372 := f362.wr R371
    have f374 := f369.wr R371
    have f375 := g361_0.other R371 (Or.inl nbx)
    have f376 := g361_1.other R371 (Or.inl nbx)
    have f377 := g361_2.other R371 (Or.inl nbx)
    have k378 := k366.wr R371 (Or.inl (by simp))
    have z379 := Nat.le_trans z367 (Keep.of_wr R371).1
    refine go_aloadN (pc' := 54) W371 d9_53 rfl rfl rfl ?_
    refine go_callP (a := b) (kc := K12) (argsL := []) (rest := []) (pc' := 57) W371 (w70 hw) (w71 hw) (w73 hw) (w72 hw) (w35 hw) (w74 hw) f372 (rm12 E.l Z a0 hw b h371 n0 z379 f374) (by decide) pd0 rfl rfl rfl (nb rfl) (nb rfl) (nb rfl) (nb rfl) d9_54 rfl ?_
    rintro _ T380 h380 ⟨rfl, q380⟩ W380
    replace W380 := W380.sub q380
    show Go E _ (Fm E T380 57 #[.val (.ref b), .val (.int (5 : Int32)), .val (.int (0 : Int32))] [])
    exact go_retV W380 rfl d9_57 (nb rfl) (nb rfl) (⟨rfl, k378, f375, f376, f377, (A371.congr (fun j hj => by match j, hj with | 0, _ => rfl))⟩)
  · exact absurd c1_359 (by decide)
set_option maxRecDepth 65536 in
set_option maxHeartbeats 4000000 in
theorem rmSet70_0 (l : Launch) (Z : State) (a0 : Array Value) (hw : Hw a0 Z) (b : Addr) (x : Addr) (p : Int64) (h0 : Heap) (n0 : Nat) (Z0 : n0 ≤ h0.size) (Ea : Exa Z h0 b "java/util/BitSet") (F0 : Fld Z h0 b "java/util/BitSet" "words" "[J" (.ref x)) (F1 : Fld Z h0 b "java/util/BitSet" "wordsInUse" "I" (.int (0 : Int32))) (F2 : Fld Z h0 b "java/util/BitSet" "sizeIsSticky" "Z" (.int (0 : Int32))) (ga : n0 ≤ b) (gx : n0 ≤ x) (nbx : b ≠ x) (Ax : Af Z h0 x .long 1 (fun _ => (.long p))) (Sa : Sta Z h0 "java/util/BitSet" "$assertionsDisabled" "Z" (.int 1)) :
    Ct l Z K9 #[(.ref b), (.int (70 : Int32))] h0 n0 (fun v h => ∃ y : Addr, v = none ∧ n0 ≤ y ∧ h0.size ≤ y ∧ Keep h0 h [b] ∧ Fld Z h b "java/util/BitSet" "words" "[J" (.ref y) ∧ Fld Z h b "java/util/BitSet" "wordsInUse" "I" (.int (2 : Int32)) ∧ Fld Z h b "java/util/BitSet" "sizeIsSticky" "Z" (.int (0 : Int32)) ∧ Af Z h y .long 2 (fun j => if j = 0 then (.long p) else (.long ((0 : Int64) ||| ((1 : Int64) <<< ((70 : Int32) &&& 0x3f).toInt64))))) := by
  refine Ct.of (Ls := #[.val (.ref b), .val (.int (70 : Int32)), .unset]) (plainFor_of_name (by first | decide +kernel | (simp [plainName, overriddenIn]; done))) (fun m => by first | rfl | (simp [entryFrame, mkF, argsToLocals, Value.category]; done)) ?_
  intro E T W
  refine go_iloadN (pc' := 1) W d9_0 rfl rfl ?_
  refine go_if_ge (pt := 31) (pf := 4) W d9_1 (by decide) rfl rfl (fun c1_381 => ?_) (fun c1_381 => ?_)
  · -- pc 1 taken
    refine go_iloadN (pc' := 32) W d9_31 rfl rfl ?_
    refine go_callS (kc := K8) (argsL := [(.int (70 : Int32))]) (rest := []) (pc' := 35) W (w49 hw) (w50 hw) (w35 hw) (w51 hw) (rmL8_70 E.l Z a0 hw h0 n0 Z0) (by decide) pd1 rfl rfl rfl (nb rfl) (nb rfl) (nb rfl) (nb rfl) d9_32 rfl ?_
    rintro _ T382 h382 ⟨rfl, q382⟩ W382
    replace W382 := W382.sub q382
    show Go E _ (Fm E T382 35 #[.val (.ref b), .val (.int (70 : Int32)), .unset] [(.int (1 : Int32))])
    refine go_istoreN (pc' := 36) (l' := #[.val (.ref b), .val (.int (70 : Int32)), .val (.int (1 : Int32))]) W382 d9_35 rfl rfl ?_
    refine go_aloadN (pc' := 37) W382 d9_36 rfl rfl rfl ?_
    refine go_iloadN (pc' := 38) W382 d9_37 rfl rfl ?_
    refine go_callP (a := b) (kc := K10) (argsL := [(.int (1 : Int32))]) (rest := []) (pc' := 41) W382 (w60 hw) (w61 hw) (w63 hw) (w62 hw) (w35 hw) (w64 hw) Ea (rmX1_0 E.l Z a0 hw b x p h0 n0 Z0 Ea F0 F1 F2 ga gx nbx Ax) (by decide) pd2 rfl rfl rfl (nb rfl) (nb rfl) (nb rfl) (nb rfl) d9_38 rfl ?_
    rintro _ T383 h383 ⟨y383, rfl, gy383, so383, K383, g383_0, g383_1, g383_2, ay383⟩ W383
    have ne384 : b ≠ y383 := Nat.ne_of_lt (Nat.lt_of_lt_of_le Ea.lt so383)
    have ne385 : x ≠ y383 := Nat.ne_of_lt (Nat.lt_of_lt_of_le Ax.lt so383)
    have old386 : h0.size ≤ y383 := Nat.le_trans (Keep.refl h0 [b]).1 so383
    have f387 := Ea.keep K383
    have k391 := (Keep.refl h0 [b]).trans K383 (allS (Or.inl (by simp)) all0)
    have z392 := Nat.le_trans Z0 K383.1
    have f393 := Ax.keep K383 (ninS (Ne.symm nbx) nin0)
    have f394 := Sta.keepN Sa K383 (allS (Ns.exa Ea) all0)
    show Go E _ (Fm E T383 41 #[.val (.ref b), .val (.int (70 : Int32)), .val (.int (1 : Int32))] [])
    refine go_aloadN (pc' := 42) W383 d9_41 rfl rfl rfl ?_
    refine go_getF (pc' := 45) W383 (host := "") (Or.inl (w53 hw)) Via.refl g383_0 d9_42 rfl ?_
    intro T395 W395
    refine go_iloadN (pc' := 46) W395 d9_45 rfl rfl ?_
    refine go_dup2 (pc' := 47) W395 d9_46 rfl rfl rfl ?_
    refine go_laloadF (pc' := 48) (i := 1) (v := (.long (0 : Int64))) W395 ay383 (by decide) (by decide) rfl d9_47 rfl ?_
    refine go_lconst (pc' := 49) (z := 1) W395 d9_48 rfl rfl ?_
    refine go_iloadN (pc' := 50) W395 d9_49 rfl rfl ?_
    refine go_lshl (pc' := 51) W395 d9_50 rfl ?_
    refine go_lor (pc' := 52) W395 d9_51 rfl ?_
    refine go_stJF (pc' := 53) (i := 1) W395 ay383 (by decide) (by decide) gy383 d9_52 rfl ?_
    intro T396 h396 W396 R396 A396
    have f397 := f387.wr R396
    have f398 := f393.other R396 ne385
    have f399 := f394.wr R396
    have f400 := g383_0.other R396 (Or.inl ne384)
    have f401 := g383_1.other R396 (Or.inl ne384)
    have f402 := g383_2.other R396 (Or.inl ne384)
    have k404 := k391.wr R396 (Or.inr old386)
    have z405 := Nat.le_trans z392 (Keep.of_wr R396).1
    refine go_aloadN (pc' := 54) W396 d9_53 rfl rfl rfl ?_
    refine go_callP (a := b) (kc := K12) (argsL := []) (rest := []) (pc' := 57) W396 (w70 hw) (w71 hw) (w73 hw) (w72 hw) (w35 hw) (w74 hw) f397 (rm12 E.l Z a0 hw b h396 n0 z405 f399) (by decide) pd0 rfl rfl rfl (nb rfl) (nb rfl) (nb rfl) (nb rfl) d9_54 rfl ?_
    rintro _ T406 h406 ⟨rfl, q406⟩ W406
    replace W406 := W406.sub q406
    show Go E _ (Fm E T406 57 #[.val (.ref b), .val (.int (70 : Int32)), .val (.int (1 : Int32))] [])
    exact go_retV W406 rfl d9_57 (nb rfl) (nb rfl) (⟨y383, rfl, gy383, old386, k404, f400, f401, f402, (A396.congr (fun j hj => by match j, hj with | 0, _ => rfl | 1, _ => rfl))⟩)
  · exact absurd c1_381 (by decide)
set_option maxRecDepth 65536 in
set_option maxHeartbeats 4000000 in
theorem rmSet70_1 (l : Launch) (Z : State) (a0 : Array Value) (hw : Hw a0 Z) (b : Addr) (x : Addr) (p : Int64) (h0 : Heap) (n0 : Nat) (Z0 : n0 ≤ h0.size) (Ea : Exa Z h0 b "java/util/BitSet") (F0 : Fld Z h0 b "java/util/BitSet" "words" "[J" (.ref x)) (F1 : Fld Z h0 b "java/util/BitSet" "wordsInUse" "I" (.int (1 : Int32))) (F2 : Fld Z h0 b "java/util/BitSet" "sizeIsSticky" "Z" (.int (0 : Int32))) (ga : n0 ≤ b) (gx : n0 ≤ x) (nbx : b ≠ x) (Ax : Af Z h0 x .long 1 (fun _ => (.long p))) (Sa : Sta Z h0 "java/util/BitSet" "$assertionsDisabled" "Z" (.int 1)) :
    Ct l Z K9 #[(.ref b), (.int (70 : Int32))] h0 n0 (fun v h => ∃ y : Addr, v = none ∧ n0 ≤ y ∧ h0.size ≤ y ∧ Keep h0 h [b] ∧ Fld Z h b "java/util/BitSet" "words" "[J" (.ref y) ∧ Fld Z h b "java/util/BitSet" "wordsInUse" "I" (.int (2 : Int32)) ∧ Fld Z h b "java/util/BitSet" "sizeIsSticky" "Z" (.int (0 : Int32)) ∧ Af Z h y .long 2 (fun j => if j = 0 then (.long p) else (.long ((0 : Int64) ||| ((1 : Int64) <<< ((70 : Int32) &&& 0x3f).toInt64))))) := by
  refine Ct.of (Ls := #[.val (.ref b), .val (.int (70 : Int32)), .unset]) (plainFor_of_name (by first | decide +kernel | (simp [plainName, overriddenIn]; done))) (fun m => by first | rfl | (simp [entryFrame, mkF, argsToLocals, Value.category]; done)) ?_
  intro E T W
  refine go_iloadN (pc' := 1) W d9_0 rfl rfl ?_
  refine go_if_ge (pt := 31) (pf := 4) W d9_1 (by decide) rfl rfl (fun c1_407 => ?_) (fun c1_407 => ?_)
  · -- pc 1 taken
    refine go_iloadN (pc' := 32) W d9_31 rfl rfl ?_
    refine go_callS (kc := K8) (argsL := [(.int (70 : Int32))]) (rest := []) (pc' := 35) W (w49 hw) (w50 hw) (w35 hw) (w51 hw) (rmL8_70 E.l Z a0 hw h0 n0 Z0) (by decide) pd1 rfl rfl rfl (nb rfl) (nb rfl) (nb rfl) (nb rfl) d9_32 rfl ?_
    rintro _ T408 h408 ⟨rfl, q408⟩ W408
    replace W408 := W408.sub q408
    show Go E _ (Fm E T408 35 #[.val (.ref b), .val (.int (70 : Int32)), .unset] [(.int (1 : Int32))])
    refine go_istoreN (pc' := 36) (l' := #[.val (.ref b), .val (.int (70 : Int32)), .val (.int (1 : Int32))]) W408 d9_35 rfl rfl ?_
    refine go_aloadN (pc' := 37) W408 d9_36 rfl rfl rfl ?_
    refine go_iloadN (pc' := 38) W408 d9_37 rfl rfl ?_
    refine go_callP (a := b) (kc := K10) (argsL := [(.int (1 : Int32))]) (rest := []) (pc' := 41) W408 (w60 hw) (w61 hw) (w63 hw) (w62 hw) (w35 hw) (w64 hw) Ea (rmX1_1 E.l Z a0 hw b x p h0 n0 Z0 Ea F0 F1 F2 ga gx nbx Ax) (by decide) pd2 rfl rfl rfl (nb rfl) (nb rfl) (nb rfl) (nb rfl) d9_38 rfl ?_
    rintro _ T409 h409 ⟨y409, rfl, gy409, so409, K409, g409_0, g409_1, g409_2, ay409⟩ W409
    have ne410 : b ≠ y409 := Nat.ne_of_lt (Nat.lt_of_lt_of_le Ea.lt so409)
    have ne411 : x ≠ y409 := Nat.ne_of_lt (Nat.lt_of_lt_of_le Ax.lt so409)
    have old412 : h0.size ≤ y409 := Nat.le_trans (Keep.refl h0 [b]).1 so409
    have f413 := Ea.keep K409
    have k417 := (Keep.refl h0 [b]).trans K409 (allS (Or.inl (by simp)) all0)
    have z418 := Nat.le_trans Z0 K409.1
    have f419 := Ax.keep K409 (ninS (Ne.symm nbx) nin0)
    have f420 := Sta.keepN Sa K409 (allS (Ns.exa Ea) all0)
    show Go E _ (Fm E T409 41 #[.val (.ref b), .val (.int (70 : Int32)), .val (.int (1 : Int32))] [])
    refine go_aloadN (pc' := 42) W409 d9_41 rfl rfl rfl ?_
    refine go_getF (pc' := 45) W409 (host := "") (Or.inl (w53 hw)) Via.refl g409_0 d9_42 rfl ?_
    intro T421 W421
    refine go_iloadN (pc' := 46) W421 d9_45 rfl rfl ?_
    refine go_dup2 (pc' := 47) W421 d9_46 rfl rfl rfl ?_
    refine go_laloadF (pc' := 48) (i := 1) (v := (.long (0 : Int64))) W421 ay409 (by decide) (by decide) rfl d9_47 rfl ?_
    refine go_lconst (pc' := 49) (z := 1) W421 d9_48 rfl rfl ?_
    refine go_iloadN (pc' := 50) W421 d9_49 rfl rfl ?_
    refine go_lshl (pc' := 51) W421 d9_50 rfl ?_
    refine go_lor (pc' := 52) W421 d9_51 rfl ?_
    refine go_stJF (pc' := 53) (i := 1) W421 ay409 (by decide) (by decide) gy409 d9_52 rfl ?_
    intro T422 h422 W422 R422 A422
    have f423 := f413.wr R422
    have f424 := f419.other R422 ne411
    have f425 := f420.wr R422
    have f426 := g409_0.other R422 (Or.inl ne410)
    have f427 := g409_1.other R422 (Or.inl ne410)
    have f428 := g409_2.other R422 (Or.inl ne410)
    have k430 := k417.wr R422 (Or.inr old412)
    have z431 := Nat.le_trans z418 (Keep.of_wr R422).1
    refine go_aloadN (pc' := 54) W422 d9_53 rfl rfl rfl ?_
    refine go_callP (a := b) (kc := K12) (argsL := []) (rest := []) (pc' := 57) W422 (w70 hw) (w71 hw) (w73 hw) (w72 hw) (w35 hw) (w74 hw) f423 (rm12 E.l Z a0 hw b h422 n0 z431 f425) (by decide) pd0 rfl rfl rfl (nb rfl) (nb rfl) (nb rfl) (nb rfl) d9_54 rfl ?_
    rintro _ T432 h432 ⟨rfl, q432⟩ W432
    replace W432 := W432.sub q432
    show Go E _ (Fm E T432 57 #[.val (.ref b), .val (.int (70 : Int32)), .val (.int (1 : Int32))] [])
    exact go_retV W432 rfl d9_57 (nb rfl) (nb rfl) (⟨y409, rfl, gy409, old412, k430, f426, f427, f428, (A422.congr (fun j hj => by match j, hj with | 0, _ => rfl | 1, _ => rfl))⟩)
  · exact absurd c1_407 (by decide)
def own_s (q : Int32) (x y : Int64) : Int64 := if q = 0 then x else x ||| y
def own_p (m : Int32) : Int64 := own_s (m &&& 4) (own_s (m &&& 2) (own_s (m &&& 1) 0 ((1 : Int64) <<< ((0 : Int32) &&& 0x3f).toInt64)) ((1 : Int64) <<< ((1 : Int32) &&& 0x3f).toInt64)) ((1 : Int64) <<< ((5 : Int32) &&& 0x3f).toInt64)
def own_q : Int64 := 0 ||| ((1 : Int64) <<< ((70 : Int32) &&& 0x3f).toInt64)
/-- a BitSet: unused, with one word, or with two -/
def own_B (Z : State) (h : Heap) (b x : Addr) (u : Nat) (p q : Int64) : Prop := Exa Z h b "java/util/BitSet" ∧ Fld Z h b "java/util/BitSet" "words" "[J" (.ref x) ∧ Fld Z h b "java/util/BitSet" "wordsInUse" "I" (.int (Int32.ofNat u)) ∧ ((u = 0 ∧ p = 0 ∧ q = 0 ∧ Af Z h x .long 1 (fun _ => (.long p))) ∨ (u = 1 ∧ q = 0 ∧ Af Z h x .long 1 (fun _ => (.long p))) ∨ (u = 2 ∧ Af Z h x .long 2 (fun j => if j = 0 then (.long p) else (.long q))))
def own_u (m : Int32) : Nat := if m &&& 8 = 0 then (if m &&& 1 = 0 then (if m &&& 2 = 0 then (if m &&& 4 = 0 then 0 else 1) else 1) else 1) else 2
def own_qm (m : Int32) : Int64 := if m &&& 8 = 0 then 0 else own_q
set_option maxRecDepth 65536 in
set_option maxHeartbeats 4000000 in
theorem rm5 (l : Launch) (Z : State) (a0 : Array Value) (hw : Hw a0 Z) (m : Int32)  (h0 : Heap) (n0 : Nat) (Z0 : n0 ≤ h0.size) (Sa : Sta Z h0 "java/util/BitSet" "$assertionsDisabled" "Z" (.int 1)) :
    Ct l Z K5 #[(.int m)] h0 n0 (fun v h => ∃ b x : Addr, v = some (.ref b) ∧ n0 ≤ b ∧ h0.size ≤ b ∧ n0 ≤ x ∧ h0.size ≤ x ∧ b ≠ x ∧ Keep h0 h [] ∧ own_B Z h b x (own_u m) (own_p m) (own_qm m)) := by
  refine Ct.of (Ls := #[.val (.int m), .unset]) (plainFor_of_name (by first | decide +kernel | (simp [plainName, overriddenIn]; done))) (fun m => by first | rfl | (simp [entryFrame, mkF, argsToLocals, Value.category]; done)) ?_
  intro E T W
  refine go_new (pc' := 3) W (w33 hw) (w34 hw) (w35 hw) d5_0 (nb rfl) (nb rfl) rfl ?_
  intro T433 h433 b433 g433 W433 E433 A433 D433 M433
  have ge434 : n0 ≤ b433 := by rw [g433]; exact Z0
  have old435 : h0.size ≤ b433 := by rw [g433]; exact (Keep.refl h0 []).1
  have f436 := Sa.ext E433
  have k437 := (Keep.refl h0 []).ext E433
  have z438 := Nat.le_trans Z0 E433.1
  have f439 : Fld Z h433 b433 "java/util/BitSet" "wordsInUse" "I" (.int (0 : Int32)) := D433 (Or.inl (w41 hw)) (ty := .int) (by decide)
  have f440 : Fld Z h433 b433 "java/util/BitSet" "sizeIsSticky" "Z" (.int (0 : Int32)) := D433 (Or.inl (w43 hw)) (ty := .boolean) (by decide)
  have f441 : Fld Z h433 b433 "java/util/BitSet" "words" "[J" .null := D433 (Or.inl (w54 hw)) (ty := (.array .long)) (by decide)
  refine go_dup (pc' := 4) W433 d5_3 rfl rfl ?_
  refine go_callN (a := b433) (kc := K6) (argsL := []) (rest := [(.ref b433)]) (pc' := 7) W433 (w36 hw) (w37 hw) (w35 hw) (w38 hw) (rm6 E.l Z a0 hw b433 h433 n0 z438 A433 f441 f439 f440 ge434) rfl rfl (by decide) pd0 rfl rfl rfl (nb rfl) (nb rfl) (nb rfl) (nb rfl) d5_4 rfl ?_
  rintro _ T442 h442 ⟨x442, rfl, gx442, so442, K442, g442_0, g442_1, g442_2, ax442⟩ W442
  have ne443 : b433 ≠ x442 := Nat.ne_of_lt (Nat.lt_of_lt_of_le A433.lt so442)
  have old444 : h0.size ≤ x442 := Nat.le_trans k437.1 so442
  have f445 := A433.keep K442
  have k449 := k437.trans K442 (allS (Or.inr old435) all0)
  have z450 := Nat.le_trans z438 K442.1
  have f451 := Sta.keepN f436 K442 (allS (Ns.exa A433) all0)
  show Go E _ (Fm E T442 7 #[.val (.int m), .unset] [(.ref b433)])
  refine go_astoreN (pc' := 8) (l' := #[.val (.int m), .val (.ref b433)]) W442 d5_7 rfl rfl rfl ?_
  refine go_iloadN (pc' := 9) W442 d5_8 rfl rfl ?_
  refine go_iconst (pc' := 10) (z := 1) W442 d5_9 rfl rfl ?_
  refine go_iand (pc' := 11) W442 d5_10 rfl ?_
  refine go_if_eq (pt := 19) (pf := 14) W442 d5_11 (by decide) rfl rfl (fun c11_452 => ?_) (fun c11_452 => ?_)
  · -- pc 11 taken
    refine go_iloadN (pc' := 20) W442 d5_19 rfl rfl ?_
    refine go_iconst (pc' := 21) (z := 2) W442 d5_20 rfl rfl ?_
    refine go_iand (pc' := 22) W442 d5_21 rfl ?_
    refine go_if_eq (pt := 30) (pf := 25) W442 d5_22 (by decide) rfl rfl (fun c22_453 => ?_) (fun c22_453 => ?_)
    · -- pc 22 taken
      refine go_iloadN (pc' := 31) W442 d5_30 rfl rfl ?_
      refine go_iconst (pc' := 32) (z := 4) W442 d5_31 rfl rfl ?_
      refine go_iand (pc' := 33) W442 d5_32 rfl ?_
      refine go_if_eq (pt := 41) (pf := 36) W442 d5_33 (by decide) rfl rfl (fun c33_454 => ?_) (fun c33_454 => ?_)
      · -- pc 33 taken
        refine go_iloadN (pc' := 42) W442 d5_41 rfl rfl ?_
        refine go_bipush (pc' := 44) (z := 8) W442 d5_42 (by decide) rfl ?_
        refine go_iand (pc' := 45) W442 d5_44 rfl ?_
        refine go_if_eq (pt := 54) (pf := 48) W442 d5_45 (by decide) rfl rfl (fun c45_455 => ?_) (fun c45_455 => ?_)
        · -- pc 45 taken
          refine go_aloadN (pc' := 55) W442 d5_54 rfl rfl rfl ?_
          exact go_retA W442 (t := (.object "java/util/BitSet")) rfl rfl rfl rfl d5_55 (nb rfl) (nb rfl) (by
              have e1 : own_u m = 0 := by simp [own_u, c11_452, c22_453, c33_454, c45_455]
              have e2 : own_p m = (0 : Int64) := by simp [own_p, own_s, c11_452, c22_453, c33_454, c45_455]
              have e3 : own_qm m = 0 := by simp [own_qm, own_q, c11_452, c22_453, c33_454, c45_455]
              rw [e1, e2, e3]
              exact ⟨b433, x442, rfl, ge434, old435, gx442, old444, ne443, k449, ⟨f445, g442_0, g442_1, Or.inl ⟨rfl, rfl, rfl, ax442⟩⟩⟩)
        · -- pc 45 not taken
          refine go_aloadN (pc' := 49) W442 d5_48 rfl rfl rfl ?_
          refine go_bipush (pc' := 51) (z := 70) W442 d5_49 (by decide) rfl ?_
          refine go_callV (a := b433) (kc := K9) (argsL := [(.int (70 : Int32))]) (rest := []) (pc' := 54) W442 (w55 hw) (w56 hw) (nf_sel W442 (w58 hw)) (w58 hw) (w57 hw) (w35 hw) (w59 hw) f445 (rmSet70_0 E.l Z a0 hw b433 x442 (0 : Int64) h442 n0 z450 f445 g442_0 g442_1 g442_2 ge434 gx442 ne443 ax442 f451) (by decide) pd2 rfl rfl rfl (nb rfl) (nb rfl) (nb rfl) (nb rfl) d5_51 rfl ?_
          rintro _ T456 h456 ⟨y456, rfl, gy456, so456, K456, g456_0, g456_1, g456_2, ay456⟩ W456
          have ne457 : b433 ≠ y456 := Nat.ne_of_lt (Nat.lt_of_lt_of_le f445.lt so456)
          have ne458 : x442 ≠ y456 := Nat.ne_of_lt (Nat.lt_of_lt_of_le ax442.lt so456)
          have old459 : h0.size ≤ y456 := Nat.le_trans k449.1 so456
          have f460 := f445.keep K456
          have k464 := k449.trans K456 (allS (Or.inr old435) all0)
          have z465 := Nat.le_trans z450 K456.1
          have f466 := ax442.keep K456 (ninS (Ne.symm ne443) nin0)
          have f467 := Sta.keepN f451 K456 (allS (Ns.exa f445) all0)
          show Go E _ (Fm E T456 54 #[.val (.int m), .val (.ref b433)] [])
          refine go_aloadN (pc' := 55) W456 d5_54 rfl rfl rfl ?_
          exact go_retA W456 (t := (.object "java/util/BitSet")) rfl rfl rfl rfl d5_55 (nb rfl) (nb rfl) (by
              have e1 : own_u m = 2 := by simp [own_u, c11_452, c22_453, c33_454, c45_455]
              have e2 : own_p m = (0 : Int64) := by simp [own_p, own_s, c11_452, c22_453, c33_454, c45_455]
              have e3 : own_qm m = ((0 : Int64) ||| ((1 : Int64) <<< ((70 : Int32) &&& 0x3f).toInt64)) := by simp [own_qm, own_q, c11_452, c22_453, c33_454, c45_455]
              rw [e1, e2, e3]
              exact ⟨b433, y456, rfl, ge434, old435, gy456, old459, ne457, k464, ⟨f460, g456_0, g456_1, Or.inr (Or.inr ⟨rfl, ay456⟩)⟩⟩)
      · -- pc 33 not taken
        refine go_aloadN (pc' := 37) W442 d5_36 rfl rfl rfl ?_
        refine go_iconst (pc' := 38) (z := 5) W442 d5_37 rfl rfl ?_
        refine go_callV (a := b433) (kc := K9) (argsL := [(.int (5 : Int32))]) (rest := []) (pc' := 41) W442 (w55 hw) (w56 hw) (nf_sel W442 (w58 hw)) (w58 hw) (w57 hw) (w35 hw) (w59 hw) f445 (rmSet5_0 E.l Z a0 hw b433 x442 (0 : Int64) h442 n0 z450 f445 g442_0 g442_1 g442_2 ge434 gx442 ne443 ax442 f451) (by decide) pd2 rfl rfl rfl (nb rfl) (nb rfl) (nb rfl) (nb rfl) d5_38 rfl ?_
        rintro _ T468 h468 ⟨rfl, K468, g468_0, g468_1, g468_2, ay468⟩ W468
        have f469 := f445.keep K468
        have k473 := k449.trans K468 (allS (Or.inr old435) (allS (Or.inr old444) all0))
        have z474 := Nat.le_trans z450 K468.1
        have f475 := Sta.keepN f451 K468 (allS (Ns.exa f445) (allS (Ns.af ax442) all0))
        show Go E _ (Fm E T468 41 #[.val (.int m), .val (.ref b433)] [])
        refine go_iloadN (pc' := 42) W468 d5_41 rfl rfl ?_
        refine go_bipush (pc' := 44) (z := 8) W468 d5_42 (by decide) rfl ?_
        refine go_iand (pc' := 45) W468 d5_44 rfl ?_
        refine go_if_eq (pt := 54) (pf := 48) W468 d5_45 (by decide) rfl rfl (fun c45_476 => ?_) (fun c45_476 => ?_)
        · -- pc 45 taken
          refine go_aloadN (pc' := 55) W468 d5_54 rfl rfl rfl ?_
          exact go_retA W468 (t := (.object "java/util/BitSet")) rfl rfl rfl rfl d5_55 (nb rfl) (nb rfl) (by
              have e1 : own_u m = 1 := by simp [own_u, c11_452, c22_453, c33_454, c45_476]
              have e2 : own_p m = ((0 : Int64) ||| ((1 : Int64) <<< ((5 : Int32) &&& 0x3f).toInt64)) := by simp [own_p, own_s, c11_452, c22_453, c33_454, c45_476]
              have e3 : own_qm m = 0 := by simp [own_qm, own_q, c11_452, c22_453, c33_454, c45_476]
              rw [e1, e2, e3]
              exact ⟨b433, x442, rfl, ge434, old435, gx442, old444, ne443, k473, ⟨f469, g468_0, g468_1, Or.inr (Or.inl ⟨rfl, rfl, ay468⟩)⟩⟩)
        · -- pc 45 not taken
          refine go_aloadN (pc' := 49) W468 d5_48 rfl rfl rfl ?_
          refine go_bipush (pc' := 51) (z := 70) W468 d5_49 (by decide) rfl ?_
          refine go_callV (a := b433) (kc := K9) (argsL := [(.int (70 : Int32))]) (rest := []) (pc' := 54) W468 (w55 hw) (w56 hw) (nf_sel W468 (w58 hw)) (w58 hw) (w57 hw) (w35 hw) (w59 hw) f469 (rmSet70_1 E.l Z a0 hw b433 x442 ((0 : Int64) ||| ((1 : Int64) <<< ((5 : Int32) &&& 0x3f).toInt64)) h468 n0 z474 f469 g468_0 g468_1 g468_2 ge434 gx442 ne443 ay468 f475) (by decide) pd2 rfl rfl rfl (nb rfl) (nb rfl) (nb rfl) (nb rfl) d5_51 rfl ?_
          rintro _ T477 h477 ⟨y477, rfl, gy477, so477, K477, g477_0, g477_1, g477_2, ay477⟩ W477
          have ne478 : b433 ≠ y477 := Nat.ne_of_lt (Nat.lt_of_lt_of_le f469.lt so477)
          have ne479 : x442 ≠ y477 := Nat.ne_of_lt (Nat.lt_of_lt_of_le ay468.lt so477)
          have old480 : h0.size ≤ y477 := Nat.le_trans k473.1 so477
          have f481 := f469.keep K477
          have k485 := k473.trans K477 (allS (Or.inr old435) all0)
          have z486 := Nat.le_trans z474 K477.1
          have f487 := ay468.keep K477 (ninS (Ne.symm ne443) nin0)
          have f488 := Sta.keepN f475 K477 (allS (Ns.exa f469) all0)
          show Go E _ (Fm E T477 54 #[.val (.int m), .val (.ref b433)] [])
          refine go_aloadN (pc' := 55) W477 d5_54 rfl rfl rfl ?_
          exact go_retA W477 (t := (.object "java/util/BitSet")) rfl rfl rfl rfl d5_55 (nb rfl) (nb rfl) (by
              have e1 : own_u m = 2 := by simp [own_u, c11_452, c22_453, c33_454, c45_476]
              have e2 : own_p m = ((0 : Int64) ||| ((1 : Int64) <<< ((5 : Int32) &&& 0x3f).toInt64)) := by simp [own_p, own_s, c11_452, c22_453, c33_454, c45_476]
              have e3 : own_qm m = ((0 : Int64) ||| ((1 : Int64) <<< ((70 : Int32) &&& 0x3f).toInt64)) := by simp [own_qm, own_q, c11_452, c22_453, c33_454, c45_476]
              rw [e1, e2, e3]
              exact ⟨b433, y477, rfl, ge434, old435, gy477, old480, ne478, k485, ⟨f481, g477_0, g477_1, Or.inr (Or.inr ⟨rfl, ay477⟩)⟩⟩)
    · -- pc 22 not taken
      refine go_aloadN (pc' := 26) W442 d5_25 rfl rfl rfl ?_
      refine go_iconst (pc' := 27) (z := 1) W442 d5_26 rfl rfl ?_
      refine go_callV (a := b433) (kc := K9) (argsL := [(.int (1 : Int32))]) (rest := []) (pc' := 30) W442 (w55 hw) (w56 hw) (nf_sel W442 (w58 hw)) (w58 hw) (w57 hw) (w35 hw) (w59 hw) f445 (rmSet1_0 E.l Z a0 hw b433 x442 (0 : Int64) h442 n0 z450 f445 g442_0 g442_1 g442_2 ge434 gx442 ne443 ax442 f451) (by decide) pd2 rfl rfl rfl (nb rfl) (nb rfl) (nb rfl) (nb rfl) d5_27 rfl ?_
      rintro _ T489 h489 ⟨rfl, K489, g489_0, g489_1, g489_2, ay489⟩ W489
      have f490 := f445.keep K489
      have k494 := k449.trans K489 (allS (Or.inr old435) (allS (Or.inr old444) all0))
      have z495 := Nat.le_trans z450 K489.1
      have f496 := Sta.keepN f451 K489 (allS (Ns.exa f445) (allS (Ns.af ax442) all0))
      show Go E _ (Fm E T489 30 #[.val (.int m), .val (.ref b433)] [])
      refine go_iloadN (pc' := 31) W489 d5_30 rfl rfl ?_
      refine go_iconst (pc' := 32) (z := 4) W489 d5_31 rfl rfl ?_
      refine go_iand (pc' := 33) W489 d5_32 rfl ?_
      refine go_if_eq (pt := 41) (pf := 36) W489 d5_33 (by decide) rfl rfl (fun c33_497 => ?_) (fun c33_497 => ?_)
      · -- pc 33 taken
        refine go_iloadN (pc' := 42) W489 d5_41 rfl rfl ?_
        refine go_bipush (pc' := 44) (z := 8) W489 d5_42 (by decide) rfl ?_
        refine go_iand (pc' := 45) W489 d5_44 rfl ?_
        refine go_if_eq (pt := 54) (pf := 48) W489 d5_45 (by decide) rfl rfl (fun c45_498 => ?_) (fun c45_498 => ?_)
        · -- pc 45 taken
          refine go_aloadN (pc' := 55) W489 d5_54 rfl rfl rfl ?_
          exact go_retA W489 (t := (.object "java/util/BitSet")) rfl rfl rfl rfl d5_55 (nb rfl) (nb rfl) (by
              have e1 : own_u m = 1 := by simp [own_u, c11_452, c22_453, c33_497, c45_498]
              have e2 : own_p m = ((0 : Int64) ||| ((1 : Int64) <<< ((1 : Int32) &&& 0x3f).toInt64)) := by simp [own_p, own_s, c11_452, c22_453, c33_497, c45_498]
              have e3 : own_qm m = 0 := by simp [own_qm, own_q, c11_452, c22_453, c33_497, c45_498]
              rw [e1, e2, e3]
              exact ⟨b433, x442, rfl, ge434, old435, gx442, old444, ne443, k494, ⟨f490, g489_0, g489_1, Or.inr (Or.inl ⟨rfl, rfl, ay489⟩)⟩⟩)
        · -- pc 45 not taken
          refine go_aloadN (pc' := 49) W489 d5_48 rfl rfl rfl ?_
          refine go_bipush (pc' := 51) (z := 70) W489 d5_49 (by decide) rfl ?_
          refine go_callV (a := b433) (kc := K9) (argsL := [(.int (70 : Int32))]) (rest := []) (pc' := 54) W489 (w55 hw) (w56 hw) (nf_sel W489 (w58 hw)) (w58 hw) (w57 hw) (w35 hw) (w59 hw) f490 (rmSet70_1 E.l Z a0 hw b433 x442 ((0 : Int64) ||| ((1 : Int64) <<< ((1 : Int32) &&& 0x3f).toInt64)) h489 n0 z495 f490 g489_0 g489_1 g489_2 ge434 gx442 ne443 ay489 f496) (by decide) pd2 rfl rfl rfl (nb rfl) (nb rfl) (nb rfl) (nb rfl) d5_51 rfl ?_
          rintro _ T499 h499 ⟨y499, rfl, gy499, so499, K499, g499_0, g499_1, g499_2, ay499⟩ W499
          have ne500 : b433 ≠ y499 := Nat.ne_of_lt (Nat.lt_of_lt_of_le f490.lt so499)
          have ne501 : x442 ≠ y499 := Nat.ne_of_lt (Nat.lt_of_lt_of_le ay489.lt so499)
          have old502 : h0.size ≤ y499 := Nat.le_trans k494.1 so499
          have f503 := f490.keep K499
          have k507 := k494.trans K499 (allS (Or.inr old435) all0)
          have z508 := Nat.le_trans z495 K499.1
          have f509 := ay489.keep K499 (ninS (Ne.symm ne443) nin0)
          have f510 := Sta.keepN f496 K499 (allS (Ns.exa f490) all0)
          show Go E _ (Fm E T499 54 #[.val (.int m), .val (.ref b433)] [])
          refine go_aloadN (pc' := 55) W499 d5_54 rfl rfl rfl ?_
          exact go_retA W499 (t := (.object "java/util/BitSet")) rfl rfl rfl rfl d5_55 (nb rfl) (nb rfl) (by
              have e1 : own_u m = 2 := by simp [own_u, c11_452, c22_453, c33_497, c45_498]
              have e2 : own_p m = ((0 : Int64) ||| ((1 : Int64) <<< ((1 : Int32) &&& 0x3f).toInt64)) := by simp [own_p, own_s, c11_452, c22_453, c33_497, c45_498]
              have e3 : own_qm m = ((0 : Int64) ||| ((1 : Int64) <<< ((70 : Int32) &&& 0x3f).toInt64)) := by simp [own_qm, own_q, c11_452, c22_453, c33_497, c45_498]
              rw [e1, e2, e3]
              exact ⟨b433, y499, rfl, ge434, old435, gy499, old502, ne500, k507, ⟨f503, g499_0, g499_1, Or.inr (Or.inr ⟨rfl, ay499⟩)⟩⟩)
      · -- pc 33 not taken
        refine go_aloadN (pc' := 37) W489 d5_36 rfl rfl rfl ?_
        refine go_iconst (pc' := 38) (z := 5) W489 d5_37 rfl rfl ?_
        refine go_callV (a := b433) (kc := K9) (argsL := [(.int (5 : Int32))]) (rest := []) (pc' := 41) W489 (w55 hw) (w56 hw) (nf_sel W489 (w58 hw)) (w58 hw) (w57 hw) (w35 hw) (w59 hw) f490 (rmSet5_1 E.l Z a0 hw b433 x442 ((0 : Int64) ||| ((1 : Int64) <<< ((1 : Int32) &&& 0x3f).toInt64)) h489 n0 z495 f490 g489_0 g489_1 g489_2 ge434 gx442 ne443 ay489 f496) (by decide) pd2 rfl rfl rfl (nb rfl) (nb rfl) (nb rfl) (nb rfl) d5_38 rfl ?_
        rintro _ T511 h511 ⟨rfl, K511, g511_0, g511_1, g511_2, ay511⟩ W511
        have f512 := f490.keep K511
        have k516 := k494.trans K511 (allS (Or.inr old435) (allS (Or.inr old444) all0))
        have z517 := Nat.le_trans z495 K511.1
        have f518 := Sta.keepN f496 K511 (allS (Ns.exa f490) (allS (Ns.af ay489) all0))
        show Go E _ (Fm E T511 41 #[.val (.int m), .val (.ref b433)] [])
        refine go_iloadN (pc' := 42) W511 d5_41 rfl rfl ?_
        refine go_bipush (pc' := 44) (z := 8) W511 d5_42 (by decide) rfl ?_
        refine go_iand (pc' := 45) W511 d5_44 rfl ?_
        refine go_if_eq (pt := 54) (pf := 48) W511 d5_45 (by decide) rfl rfl (fun c45_519 => ?_) (fun c45_519 => ?_)
        · -- pc 45 taken
          refine go_aloadN (pc' := 55) W511 d5_54 rfl rfl rfl ?_
          exact go_retA W511 (t := (.object "java/util/BitSet")) rfl rfl rfl rfl d5_55 (nb rfl) (nb rfl) (by
              have e1 : own_u m = 1 := by simp [own_u, c11_452, c22_453, c33_497, c45_519]
              have e2 : own_p m = (((0 : Int64) ||| ((1 : Int64) <<< ((1 : Int32) &&& 0x3f).toInt64)) ||| ((1 : Int64) <<< ((5 : Int32) &&& 0x3f).toInt64)) := by simp [own_p, own_s, c11_452, c22_453, c33_497, c45_519]
              have e3 : own_qm m = 0 := by simp [own_qm, own_q, c11_452, c22_453, c33_497, c45_519]
              rw [e1, e2, e3]
              exact ⟨b433, x442, rfl, ge434, old435, gx442, old444, ne443, k516, ⟨f512, g511_0, g511_1, Or.inr (Or.inl ⟨rfl, rfl, ay511⟩)⟩⟩)
        · -- pc 45 not taken
          refine go_aloadN (pc' := 49) W511 d5_48 rfl rfl rfl ?_
          refine go_bipush (pc' := 51) (z := 70) W511 d5_49 (by decide) rfl ?_
          refine go_callV (a := b433) (kc := K9) (argsL := [(.int (70 : Int32))]) (rest := []) (pc' := 54) W511 (w55 hw) (w56 hw) (nf_sel W511 (w58 hw)) (w58 hw) (w57 hw) (w35 hw) (w59 hw) f512 (rmSet70_1 E.l Z a0 hw b433 x442 (((0 : Int64) ||| ((1 : Int64) <<< ((1 : Int32) &&& 0x3f).toInt64)) ||| ((1 : Int64) <<< ((5 : Int32) &&& 0x3f).toInt64)) h511 n0 z517 f512 g511_0 g511_1 g511_2 ge434 gx442 ne443 ay511 f518) (by decide) pd2 rfl rfl rfl (nb rfl) (nb rfl) (nb rfl) (nb rfl) d5_51 rfl ?_
          rintro _ T520 h520 ⟨y520, rfl, gy520, so520, K520, g520_0, g520_1, g520_2, ay520⟩ W520
          have ne521 : b433 ≠ y520 := Nat.ne_of_lt (Nat.lt_of_lt_of_le f512.lt so520)
          have ne522 : x442 ≠ y520 := Nat.ne_of_lt (Nat.lt_of_lt_of_le ay511.lt so520)
          have old523 : h0.size ≤ y520 := Nat.le_trans k516.1 so520
          have f524 := f512.keep K520
          have k528 := k516.trans K520 (allS (Or.inr old435) all0)
          have z529 := Nat.le_trans z517 K520.1
          have f530 := ay511.keep K520 (ninS (Ne.symm ne443) nin0)
          have f531 := Sta.keepN f518 K520 (allS (Ns.exa f512) all0)
          show Go E _ (Fm E T520 54 #[.val (.int m), .val (.ref b433)] [])
          refine go_aloadN (pc' := 55) W520 d5_54 rfl rfl rfl ?_
          exact go_retA W520 (t := (.object "java/util/BitSet")) rfl rfl rfl rfl d5_55 (nb rfl) (nb rfl) (by
              have e1 : own_u m = 2 := by simp [own_u, c11_452, c22_453, c33_497, c45_519]
              have e2 : own_p m = (((0 : Int64) ||| ((1 : Int64) <<< ((1 : Int32) &&& 0x3f).toInt64)) ||| ((1 : Int64) <<< ((5 : Int32) &&& 0x3f).toInt64)) := by simp [own_p, own_s, c11_452, c22_453, c33_497, c45_519]
              have e3 : own_qm m = ((0 : Int64) ||| ((1 : Int64) <<< ((70 : Int32) &&& 0x3f).toInt64)) := by simp [own_qm, own_q, c11_452, c22_453, c33_497, c45_519]
              rw [e1, e2, e3]
              exact ⟨b433, y520, rfl, ge434, old435, gy520, old523, ne521, k528, ⟨f524, g520_0, g520_1, Or.inr (Or.inr ⟨rfl, ay520⟩)⟩⟩)
  · -- pc 11 not taken
    refine go_aloadN (pc' := 15) W442 d5_14 rfl rfl rfl ?_
    refine go_iconst (pc' := 16) (z := 0) W442 d5_15 rfl rfl ?_
    refine go_callV (a := b433) (kc := K9) (argsL := [(.int (0 : Int32))]) (rest := []) (pc' := 19) W442 (w55 hw) (w56 hw) (nf_sel W442 (w58 hw)) (w58 hw) (w57 hw) (w35 hw) (w59 hw) f445 (rmSet0_0 E.l Z a0 hw b433 x442 (0 : Int64) h442 n0 z450 f445 g442_0 g442_1 g442_2 ge434 gx442 ne443 ax442 f451) (by decide) pd2 rfl rfl rfl (nb rfl) (nb rfl) (nb rfl) (nb rfl) d5_16 rfl ?_
    rintro _ T532 h532 ⟨rfl, K532, g532_0, g532_1, g532_2, ay532⟩ W532
    have f533 := f445.keep K532
    have k537 := k449.trans K532 (allS (Or.inr old435) (allS (Or.inr old444) all0))
    have z538 := Nat.le_trans z450 K532.1
    have f539 := Sta.keepN f451 K532 (allS (Ns.exa f445) (allS (Ns.af ax442) all0))
    show Go E _ (Fm E T532 19 #[.val (.int m), .val (.ref b433)] [])
    refine go_iloadN (pc' := 20) W532 d5_19 rfl rfl ?_
    refine go_iconst (pc' := 21) (z := 2) W532 d5_20 rfl rfl ?_
    refine go_iand (pc' := 22) W532 d5_21 rfl ?_
    refine go_if_eq (pt := 30) (pf := 25) W532 d5_22 (by decide) rfl rfl (fun c22_540 => ?_) (fun c22_540 => ?_)
    · -- pc 22 taken
      refine go_iloadN (pc' := 31) W532 d5_30 rfl rfl ?_
      refine go_iconst (pc' := 32) (z := 4) W532 d5_31 rfl rfl ?_
      refine go_iand (pc' := 33) W532 d5_32 rfl ?_
      refine go_if_eq (pt := 41) (pf := 36) W532 d5_33 (by decide) rfl rfl (fun c33_541 => ?_) (fun c33_541 => ?_)
      · -- pc 33 taken
        refine go_iloadN (pc' := 42) W532 d5_41 rfl rfl ?_
        refine go_bipush (pc' := 44) (z := 8) W532 d5_42 (by decide) rfl ?_
        refine go_iand (pc' := 45) W532 d5_44 rfl ?_
        refine go_if_eq (pt := 54) (pf := 48) W532 d5_45 (by decide) rfl rfl (fun c45_542 => ?_) (fun c45_542 => ?_)
        · -- pc 45 taken
          refine go_aloadN (pc' := 55) W532 d5_54 rfl rfl rfl ?_
          exact go_retA W532 (t := (.object "java/util/BitSet")) rfl rfl rfl rfl d5_55 (nb rfl) (nb rfl) (by
              have e1 : own_u m = 1 := by simp [own_u, c11_452, c22_540, c33_541, c45_542]
              have e2 : own_p m = ((0 : Int64) ||| ((1 : Int64) <<< ((0 : Int32) &&& 0x3f).toInt64)) := by simp [own_p, own_s, c11_452, c22_540, c33_541, c45_542]
              have e3 : own_qm m = 0 := by simp [own_qm, own_q, c11_452, c22_540, c33_541, c45_542]
              rw [e1, e2, e3]
              exact ⟨b433, x442, rfl, ge434, old435, gx442, old444, ne443, k537, ⟨f533, g532_0, g532_1, Or.inr (Or.inl ⟨rfl, rfl, ay532⟩)⟩⟩)
        · -- pc 45 not taken
          refine go_aloadN (pc' := 49) W532 d5_48 rfl rfl rfl ?_
          refine go_bipush (pc' := 51) (z := 70) W532 d5_49 (by decide) rfl ?_
          refine go_callV (a := b433) (kc := K9) (argsL := [(.int (70 : Int32))]) (rest := []) (pc' := 54) W532 (w55 hw) (w56 hw) (nf_sel W532 (w58 hw)) (w58 hw) (w57 hw) (w35 hw) (w59 hw) f533 (rmSet70_1 E.l Z a0 hw b433 x442 ((0 : Int64) ||| ((1 : Int64) <<< ((0 : Int32) &&& 0x3f).toInt64)) h532 n0 z538 f533 g532_0 g532_1 g532_2 ge434 gx442 ne443 ay532 f539) (by decide) pd2 rfl rfl rfl (nb rfl) (nb rfl) (nb rfl) (nb rfl) d5_51 rfl ?_
          rintro _ T543 h543 ⟨y543, rfl, gy543, so543, K543, g543_0, g543_1, g543_2, ay543⟩ W543
          have ne544 : b433 ≠ y543 := Nat.ne_of_lt (Nat.lt_of_lt_of_le f533.lt so543)
          have ne545 : x442 ≠ y543 := Nat.ne_of_lt (Nat.lt_of_lt_of_le ay532.lt so543)
          have old546 : h0.size ≤ y543 := Nat.le_trans k537.1 so543
          have f547 := f533.keep K543
          have k551 := k537.trans K543 (allS (Or.inr old435) all0)
          have z552 := Nat.le_trans z538 K543.1
          have f553 := ay532.keep K543 (ninS (Ne.symm ne443) nin0)
          have f554 := Sta.keepN f539 K543 (allS (Ns.exa f533) all0)
          show Go E _ (Fm E T543 54 #[.val (.int m), .val (.ref b433)] [])
          refine go_aloadN (pc' := 55) W543 d5_54 rfl rfl rfl ?_
          exact go_retA W543 (t := (.object "java/util/BitSet")) rfl rfl rfl rfl d5_55 (nb rfl) (nb rfl) (by
              have e1 : own_u m = 2 := by simp [own_u, c11_452, c22_540, c33_541, c45_542]
              have e2 : own_p m = ((0 : Int64) ||| ((1 : Int64) <<< ((0 : Int32) &&& 0x3f).toInt64)) := by simp [own_p, own_s, c11_452, c22_540, c33_541, c45_542]
              have e3 : own_qm m = ((0 : Int64) ||| ((1 : Int64) <<< ((70 : Int32) &&& 0x3f).toInt64)) := by simp [own_qm, own_q, c11_452, c22_540, c33_541, c45_542]
              rw [e1, e2, e3]
              exact ⟨b433, y543, rfl, ge434, old435, gy543, old546, ne544, k551, ⟨f547, g543_0, g543_1, Or.inr (Or.inr ⟨rfl, ay543⟩)⟩⟩)
      · -- pc 33 not taken
        refine go_aloadN (pc' := 37) W532 d5_36 rfl rfl rfl ?_
        refine go_iconst (pc' := 38) (z := 5) W532 d5_37 rfl rfl ?_
        refine go_callV (a := b433) (kc := K9) (argsL := [(.int (5 : Int32))]) (rest := []) (pc' := 41) W532 (w55 hw) (w56 hw) (nf_sel W532 (w58 hw)) (w58 hw) (w57 hw) (w35 hw) (w59 hw) f533 (rmSet5_1 E.l Z a0 hw b433 x442 ((0 : Int64) ||| ((1 : Int64) <<< ((0 : Int32) &&& 0x3f).toInt64)) h532 n0 z538 f533 g532_0 g532_1 g532_2 ge434 gx442 ne443 ay532 f539) (by decide) pd2 rfl rfl rfl (nb rfl) (nb rfl) (nb rfl) (nb rfl) d5_38 rfl ?_
        rintro _ T555 h555 ⟨rfl, K555, g555_0, g555_1, g555_2, ay555⟩ W555
        have f556 := f533.keep K555
        have k560 := k537.trans K555 (allS (Or.inr old435) (allS (Or.inr old444) all0))
        have z561 := Nat.le_trans z538 K555.1
        have f562 := Sta.keepN f539 K555 (allS (Ns.exa f533) (allS (Ns.af ay532) all0))
        show Go E _ (Fm E T555 41 #[.val (.int m), .val (.ref b433)] [])
        refine go_iloadN (pc' := 42) W555 d5_41 rfl rfl ?_
        refine go_bipush (pc' := 44) (z := 8) W555 d5_42 (by decide) rfl ?_
        refine go_iand (pc' := 45) W555 d5_44 rfl ?_
        refine go_if_eq (pt := 54) (pf := 48) W555 d5_45 (by decide) rfl rfl (fun c45_563 => ?_) (fun c45_563 => ?_)
        · -- pc 45 taken
          refine go_aloadN (pc' := 55) W555 d5_54 rfl rfl rfl ?_
          exact go_retA W555 (t := (.object "java/util/BitSet")) rfl rfl rfl rfl d5_55 (nb rfl) (nb rfl) (by
              have e1 : own_u m = 1 := by simp [own_u, c11_452, c22_540, c33_541, c45_563]
              have e2 : own_p m = (((0 : Int64) ||| ((1 : Int64) <<< ((0 : Int32) &&& 0x3f).toInt64)) ||| ((1 : Int64) <<< ((5 : Int32) &&& 0x3f).toInt64)) := by simp [own_p, own_s, c11_452, c22_540, c33_541, c45_563]
              have e3 : own_qm m = 0 := by simp [own_qm, own_q, c11_452, c22_540, c33_541, c45_563]
              rw [e1, e2, e3]
              exact ⟨b433, x442, rfl, ge434, old435, gx442, old444, ne443, k560, ⟨f556, g555_0, g555_1, Or.inr (Or.inl ⟨rfl, rfl, ay555⟩)⟩⟩)
        · -- pc 45 not taken
          refine go_aloadN (pc' := 49) W555 d5_48 rfl rfl rfl ?_
          refine go_bipush (pc' := 51) (z := 70) W555 d5_49 (by decide) rfl ?_
          refine go_callV (a := b433) (kc := K9) (argsL := [(.int (70 : Int32))]) (rest := []) (pc' := 54) W555 (w55 hw) (w56 hw) (nf_sel W555 (w58 hw)) (w58 hw) (w57 hw) (w35 hw) (w59 hw) f556 (rmSet70_1 E.l Z a0 hw b433 x442 (((0 : Int64) ||| ((1 : Int64) <<< ((0 : Int32) &&& 0x3f).toInt64)) ||| ((1 : Int64) <<< ((5 : Int32) &&& 0x3f).toInt64)) h555 n0 z561 f556 g555_0 g555_1 g555_2 ge434 gx442 ne443 ay555 f562) (by decide) pd2 rfl rfl rfl (nb rfl) (nb rfl) (nb rfl) (nb rfl) d5_51 rfl ?_
          rintro _ T564 h564 ⟨y564, rfl, gy564, so564, K564, g564_0, g564_1, g564_2, ay564⟩ W564
          have ne565 : b433 ≠ y564 := Nat.ne_of_lt (Nat.lt_of_lt_of_le f556.lt so564)
          have ne566 : x442 ≠ y564 := Nat.ne_of_lt (Nat.lt_of_lt_of_le ay555.lt so564)
          have old567 : h0.size ≤ y564 := Nat.le_trans k560.1 so564
          have f568 := f556.keep K564
          have k572 := k560.trans K564 (allS (Or.inr old435) all0)
          have z573 := Nat.le_trans z561 K564.1
          have f574 := ay555.keep K564 (ninS (Ne.symm ne443) nin0)
          have f575 := Sta.keepN f562 K564 (allS (Ns.exa f556) all0)
          show Go E _ (Fm E T564 54 #[.val (.int m), .val (.ref b433)] [])
          refine go_aloadN (pc' := 55) W564 d5_54 rfl rfl rfl ?_
          exact go_retA W564 (t := (.object "java/util/BitSet")) rfl rfl rfl rfl d5_55 (nb rfl) (nb rfl) (by
              have e1 : own_u m = 2 := by simp [own_u, c11_452, c22_540, c33_541, c45_563]
              have e2 : own_p m = (((0 : Int64) ||| ((1 : Int64) <<< ((0 : Int32) &&& 0x3f).toInt64)) ||| ((1 : Int64) <<< ((5 : Int32) &&& 0x3f).toInt64)) := by simp [own_p, own_s, c11_452, c22_540, c33_541, c45_563]
              have e3 : own_qm m = ((0 : Int64) ||| ((1 : Int64) <<< ((70 : Int32) &&& 0x3f).toInt64)) := by simp [own_qm, own_q, c11_452, c22_540, c33_541, c45_563]
              rw [e1, e2, e3]
              exact ⟨b433, y564, rfl, ge434, old435, gy564, old567, ne565, k572, ⟨f568, g564_0, g564_1, Or.inr (Or.inr ⟨rfl, ay564⟩)⟩⟩)
    · -- pc 22 not taken
      refine go_aloadN (pc' := 26) W532 d5_25 rfl rfl rfl ?_
      refine go_iconst (pc' := 27) (z := 1) W532 d5_26 rfl rfl ?_
      refine go_callV (a := b433) (kc := K9) (argsL := [(.int (1 : Int32))]) (rest := []) (pc' := 30) W532 (w55 hw) (w56 hw) (nf_sel W532 (w58 hw)) (w58 hw) (w57 hw) (w35 hw) (w59 hw) f533 (rmSet1_1 E.l Z a0 hw b433 x442 ((0 : Int64) ||| ((1 : Int64) <<< ((0 : Int32) &&& 0x3f).toInt64)) h532 n0 z538 f533 g532_0 g532_1 g532_2 ge434 gx442 ne443 ay532 f539) (by decide) pd2 rfl rfl rfl (nb rfl) (nb rfl) (nb rfl) (nb rfl) d5_27 rfl ?_
      rintro _ T576 h576 ⟨rfl, K576, g576_0, g576_1, g576_2, ay576⟩ W576
      have f577 := f533.keep K576
      have k581 := k537.trans K576 (allS (Or.inr old435) (allS (Or.inr old444) all0))
      have z582 := Nat.le_trans z538 K576.1
      have f583 := Sta.keepN f539 K576 (allS (Ns.exa f533) (allS (Ns.af ay532) all0))
      show Go E _ (Fm E T576 30 #[.val (.int m), .val (.ref b433)] [])
      refine go_iloadN (pc' := 31) W576 d5_30 rfl rfl ?_
      refine go_iconst (pc' := 32) (z := 4) W576 d5_31 rfl rfl ?_
      refine go_iand (pc' := 33) W576 d5_32 rfl ?_
      refine go_if_eq (pt := 41) (pf := 36) W576 d5_33 (by decide) rfl rfl (fun c33_584 => ?_) (fun c33_584 => ?_)
      · -- pc 33 taken
        refine go_iloadN (pc' := 42) W576 d5_41 rfl rfl ?_
        refine go_bipush (pc' := 44) (z := 8) W576 d5_42 (by decide) rfl ?_
        refine go_iand (pc' := 45) W576 d5_44 rfl ?_
        refine go_if_eq (pt := 54) (pf := 48) W576 d5_45 (by decide) rfl rfl (fun c45_585 => ?_) (fun c45_585 => ?_)
        · -- pc 45 taken
          refine go_aloadN (pc' := 55) W576 d5_54 rfl rfl rfl ?_
          exact go_retA W576 (t := (.object "java/util/BitSet")) rfl rfl rfl rfl d5_55 (nb rfl) (nb rfl) (by
              have e1 : own_u m = 1 := by simp [own_u, c11_452, c22_540, c33_584, c45_585]
              have e2 : own_p m = (((0 : Int64) ||| ((1 : Int64) <<< ((0 : Int32) &&& 0x3f).toInt64)) ||| ((1 : Int64) <<< ((1 : Int32) &&& 0x3f).toInt64)) := by simp [own_p, own_s, c11_452, c22_540, c33_584, c45_585]
              have e3 : own_qm m = 0 := by simp [own_qm, own_q, c11_452, c22_540, c33_584, c45_585]
              rw [e1, e2, e3]
              exact ⟨b433, x442, rfl, ge434, old435, gx442, old444, ne443, k581, ⟨f577, g576_0, g576_1, Or.inr (Or.inl ⟨rfl, rfl, ay576⟩)⟩⟩)
        · -- pc 45 not taken
          refine go_aloadN (pc' := 49) W576 d5_48 rfl rfl rfl ?_
          refine go_bipush (pc' := 51) (z := 70) W576 d5_49 (by decide) rfl ?_
          refine go_callV (a := b433) (kc := K9) (argsL := [(.int (70 : Int32))]) (rest := []) (pc' := 54) W576 (w55 hw) (w56 hw) (nf_sel W576 (w58 hw)) (w58 hw) (w57 hw) (w35 hw) (w59 hw) f577 (rmSet70_1 E.l Z a0 hw b433 x442 (((0 : Int64) ||| ((1 : Int64) <<< ((0 : Int32) &&& 0x3f).toInt64)) ||| ((1 : Int64) <<< ((1 : Int32) &&& 0x3f).toInt64)) h576 n0 z582 f577 g576_0 g576_1 g576_2 ge434 gx442 ne443 ay576 f583) (by decide) pd2 rfl rfl rfl (nb rfl) (nb rfl) (nb rfl) (nb rfl) d5_51 rfl ?_
          rintro _ T586 h586 ⟨y586, rfl, gy586, so586, K586, g586_0, g586_1, g586_2, ay586⟩ W586
          have ne587 : b433 ≠ y586 := Nat.ne_of_lt (Nat.lt_of_lt_of_le f577.lt so586)
          have ne588 : x442 ≠ y586 := Nat.ne_of_lt (Nat.lt_of_lt_of_le ay576.lt so586)
          have old589 : h0.size ≤ y586 := Nat.le_trans k581.1 so586
          have f590 := f577.keep K586
          have k594 := k581.trans K586 (allS (Or.inr old435) all0)
          have z595 := Nat.le_trans z582 K586.1
          have f596 := ay576.keep K586 (ninS (Ne.symm ne443) nin0)
          have f597 := Sta.keepN f583 K586 (allS (Ns.exa f577) all0)
          show Go E _ (Fm E T586 54 #[.val (.int m), .val (.ref b433)] [])
          refine go_aloadN (pc' := 55) W586 d5_54 rfl rfl rfl ?_
          exact go_retA W586 (t := (.object "java/util/BitSet")) rfl rfl rfl rfl d5_55 (nb rfl) (nb rfl) (by
              have e1 : own_u m = 2 := by simp [own_u, c11_452, c22_540, c33_584, c45_585]
              have e2 : own_p m = (((0 : Int64) ||| ((1 : Int64) <<< ((0 : Int32) &&& 0x3f).toInt64)) ||| ((1 : Int64) <<< ((1 : Int32) &&& 0x3f).toInt64)) := by simp [own_p, own_s, c11_452, c22_540, c33_584, c45_585]
              have e3 : own_qm m = ((0 : Int64) ||| ((1 : Int64) <<< ((70 : Int32) &&& 0x3f).toInt64)) := by simp [own_qm, own_q, c11_452, c22_540, c33_584, c45_585]
              rw [e1, e2, e3]
              exact ⟨b433, y586, rfl, ge434, old435, gy586, old589, ne587, k594, ⟨f590, g586_0, g586_1, Or.inr (Or.inr ⟨rfl, ay586⟩)⟩⟩)
      · -- pc 33 not taken
        refine go_aloadN (pc' := 37) W576 d5_36 rfl rfl rfl ?_
        refine go_iconst (pc' := 38) (z := 5) W576 d5_37 rfl rfl ?_
        refine go_callV (a := b433) (kc := K9) (argsL := [(.int (5 : Int32))]) (rest := []) (pc' := 41) W576 (w55 hw) (w56 hw) (nf_sel W576 (w58 hw)) (w58 hw) (w57 hw) (w35 hw) (w59 hw) f577 (rmSet5_1 E.l Z a0 hw b433 x442 (((0 : Int64) ||| ((1 : Int64) <<< ((0 : Int32) &&& 0x3f).toInt64)) ||| ((1 : Int64) <<< ((1 : Int32) &&& 0x3f).toInt64)) h576 n0 z582 f577 g576_0 g576_1 g576_2 ge434 gx442 ne443 ay576 f583) (by decide) pd2 rfl rfl rfl (nb rfl) (nb rfl) (nb rfl) (nb rfl) d5_38 rfl ?_
        rintro _ T598 h598 ⟨rfl, K598, g598_0, g598_1, g598_2, ay598⟩ W598
        have f599 := f577.keep K598
        have k603 := k581.trans K598 (allS (Or.inr old435) (allS (Or.inr old444) all0))
        have z604 := Nat.le_trans z582 K598.1
        have f605 := Sta.keepN f583 K598 (allS (Ns.exa f577) (allS (Ns.af ay576) all0))
        show Go E _ (Fm E T598 41 #[.val (.int m), .val (.ref b433)] [])
        refine go_iloadN (pc' := 42) W598 d5_41 rfl rfl ?_
        refine go_bipush (pc' := 44) (z := 8) W598 d5_42 (by decide) rfl ?_
        refine go_iand (pc' := 45) W598 d5_44 rfl ?_
        refine go_if_eq (pt := 54) (pf := 48) W598 d5_45 (by decide) rfl rfl (fun c45_606 => ?_) (fun c45_606 => ?_)
        · -- pc 45 taken
          refine go_aloadN (pc' := 55) W598 d5_54 rfl rfl rfl ?_
          exact go_retA W598 (t := (.object "java/util/BitSet")) rfl rfl rfl rfl d5_55 (nb rfl) (nb rfl) (by
              have e1 : own_u m = 1 := by simp [own_u, c11_452, c22_540, c33_584, c45_606]
              have e2 : own_p m = ((((0 : Int64) ||| ((1 : Int64) <<< ((0 : Int32) &&& 0x3f).toInt64)) ||| ((1 : Int64) <<< ((1 : Int32) &&& 0x3f).toInt64)) ||| ((1 : Int64) <<< ((5 : Int32) &&& 0x3f).toInt64)) := by simp [own_p, own_s, c11_452, c22_540, c33_584, c45_606]
              have e3 : own_qm m = 0 := by simp [own_qm, own_q, c11_452, c22_540, c33_584, c45_606]
              rw [e1, e2, e3]
              exact ⟨b433, x442, rfl, ge434, old435, gx442, old444, ne443, k603, ⟨f599, g598_0, g598_1, Or.inr (Or.inl ⟨rfl, rfl, ay598⟩)⟩⟩)
        · -- pc 45 not taken
          refine go_aloadN (pc' := 49) W598 d5_48 rfl rfl rfl ?_
          refine go_bipush (pc' := 51) (z := 70) W598 d5_49 (by decide) rfl ?_
          refine go_callV (a := b433) (kc := K9) (argsL := [(.int (70 : Int32))]) (rest := []) (pc' := 54) W598 (w55 hw) (w56 hw) (nf_sel W598 (w58 hw)) (w58 hw) (w57 hw) (w35 hw) (w59 hw) f599 (rmSet70_1 E.l Z a0 hw b433 x442 ((((0 : Int64) ||| ((1 : Int64) <<< ((0 : Int32) &&& 0x3f).toInt64)) ||| ((1 : Int64) <<< ((1 : Int32) &&& 0x3f).toInt64)) ||| ((1 : Int64) <<< ((5 : Int32) &&& 0x3f).toInt64)) h598 n0 z604 f599 g598_0 g598_1 g598_2 ge434 gx442 ne443 ay598 f605) (by decide) pd2 rfl rfl rfl (nb rfl) (nb rfl) (nb rfl) (nb rfl) d5_51 rfl ?_
          rintro _ T607 h607 ⟨y607, rfl, gy607, so607, K607, g607_0, g607_1, g607_2, ay607⟩ W607
          have ne608 : b433 ≠ y607 := Nat.ne_of_lt (Nat.lt_of_lt_of_le f599.lt so607)
          have ne609 : x442 ≠ y607 := Nat.ne_of_lt (Nat.lt_of_lt_of_le ay598.lt so607)
          have old610 : h0.size ≤ y607 := Nat.le_trans k603.1 so607
          have f611 := f599.keep K607
          have k615 := k603.trans K607 (allS (Or.inr old435) all0)
          have z616 := Nat.le_trans z604 K607.1
          have f617 := ay598.keep K607 (ninS (Ne.symm ne443) nin0)
          have f618 := Sta.keepN f605 K607 (allS (Ns.exa f599) all0)
          show Go E _ (Fm E T607 54 #[.val (.int m), .val (.ref b433)] [])
          refine go_aloadN (pc' := 55) W607 d5_54 rfl rfl rfl ?_
          exact go_retA W607 (t := (.object "java/util/BitSet")) rfl rfl rfl rfl d5_55 (nb rfl) (nb rfl) (by
              have e1 : own_u m = 2 := by simp [own_u, c11_452, c22_540, c33_584, c45_606]
              have e2 : own_p m = ((((0 : Int64) ||| ((1 : Int64) <<< ((0 : Int32) &&& 0x3f).toInt64)) ||| ((1 : Int64) <<< ((1 : Int32) &&& 0x3f).toInt64)) ||| ((1 : Int64) <<< ((5 : Int32) &&& 0x3f).toInt64)) := by simp [own_p, own_s, c11_452, c22_540, c33_584, c45_606]
              have e3 : own_qm m = ((0 : Int64) ||| ((1 : Int64) <<< ((70 : Int32) &&& 0x3f).toInt64)) := by simp [own_qm, own_q, c11_452, c22_540, c33_584, c45_606]
              rw [e1, e2, e3]
              exact ⟨b433, y607, rfl, ge434, old435, gy607, old610, ne608, k615, ⟨f611, g607_0, g607_1, Or.inr (Or.inr ⟨rfl, ay607⟩)⟩⟩)
theorem own_B.keep {Z : State} {h h' : Heap} {b x : Addr} {u : Nat} {p q : Int64} {ws : List Addr} (B : own_B Z h b x u p q) (K : Keep h h' ws) (n1 : b ∉ ws) (n2 : x ∉ ws) : own_B Z h' b x u p q := by
  obtain ⟨e, f1, f2, r⟩ := B
  refine ⟨e.keep K, f1.keep K n1, f2.keep K n1, ?_⟩
  rcases r with ⟨r1, r2, r3, a⟩ | ⟨r1, r2, a⟩ | ⟨r1, a⟩
  · exact Or.inl ⟨r1, r2, r3, a.keep K n2⟩
  · exact Or.inr (Or.inl ⟨r1, r2, a.keep K n2⟩)
  · exact Or.inr (Or.inr ⟨r1, a.keep K n2⟩)
theorem own_B.ltx {Z : State} {h : Heap} {b x : Addr} {u : Nat} {p q : Int64} (B : own_B Z h b x u p q) : x < h.size := by
  obtain ⟨e, f1, f2, r⟩ := B
  rcases r with ⟨r1, r2, r3, a⟩ | ⟨r1, r2, a⟩ | ⟨r1, a⟩ <;> exact a.lt
set_option maxRecDepth 65536 in
set_option maxHeartbeats 4000000 in
theorem rm13 (l : Launch) (Z : State) (a0 : Array Value) (hw : Hw a0 Z) (a : Addr) (s : Int32) (f : Addr)  (h0 : Heap) (n0 : Nat) (Z0 : n0 ≤ h0.size) (Ea : Exa Z h0 a "com/example/slotwright/slotwright/EnrolmentInstance$Room") (F0 : Fld Z h0 a "com/example/slotwright/slotwright/EnrolmentInstance$Room" "size" "I" (.int (0 : Int32))) (F1 : Fld Z h0 a "com/example/slotwright/slotwright/EnrolmentInstance$Room" "features" "Ljava/util/BitSet;" .null) (ga : n0 ≤ a)  :
    Ct l Z K13 #[(.ref a), (.int s), (.ref f)] h0 n0 (fun v h => v = none ∧ Keep h0 h [a] ∧ Fld Z h a "com/example/slotwright/slotwright/EnrolmentInstance$Room" "size" "I" (.int s) ∧ Fld Z h a "com/example/slotwright/slotwright/EnrolmentInstance$Room" "features" "Ljava/util/BitSet;" (.ref f)) := by
  refine Ct.of (Ls := #[.val (.ref a), .val (.int s), .val (.ref f)]) (plainFor_of_name (by first | decide +kernel | (simp [plainName, overriddenIn]; done))) (fun m => by first | rfl | (simp [entryFrame, mkF, argsToLocals, Value.category]; done)) ?_
  intro E T W
  refine go_aloadN (pc' := 1) W d13_0 rfl rfl rfl ?_
  refine go_callN (a := a) (kc := K14) (argsL := []) (rest := []) (pc' := 4) W (w79 hw) (w80 hw) (w82 hw) (w83 hw) (rm14 E.l Z a0 hw a h0 n0 Z0) rfl rfl (by decide) pd0 rfl rfl rfl (nb rfl) (nb rfl) (nb rfl) (nb rfl) d13_1 rfl ?_
  rintro _ T619 h619 ⟨rfl, q619⟩ W619
  replace W619 := W619.sub q619
  show Go E _ (Fm E T619 4 #[.val (.ref a), .val (.int s), .val (.ref f)] [])
  refine go_aloadN (pc' := 5) W619 d13_4 rfl rfl rfl ?_
  refine go_iloadN (pc' := 6) W619 d13_5 rfl rfl ?_
  refine go_putF (pc' := 9) W619 (host := "") (Or.inl (w85 hw)) Via.refl F0 Ea (Or.inr ⟨(w86 hw), rfl, rfl⟩) (w27 hw) (ty := .int) (by decide) rfl rfl ga d13_6 rfl ?_
  intro T620 h620 W620 R620
  have f621 := Ea.wr R620
  have f622 := F0.same R620
  have f623 := F1.other R620 (Or.inr (slot_ne (Or.inr (w88 hw)) (Or.inr (w86 hw)) (by decide) (t := (.object "java/util/BitSet")) (t' := .int) (by decide) (by decide)))
  have k624 := (Keep.refl h0 [a]).wr R620 (Or.inl (by simp))
  have z625 := Nat.le_trans Z0 (Keep.of_wr R620).1
  refine go_aloadN (pc' := 10) W620 d13_9 rfl rfl rfl ?_
  refine go_aloadN (pc' := 11) W620 d13_10 rfl rfl rfl ?_
  refine go_putF (pc' := 14) W620 (host := "") (Or.inl (w87 hw)) Via.refl f623 f621 (Or.inr ⟨(w88 hw), rfl, rfl⟩) (w27 hw) (ty := (.object "java/util/BitSet")) (by decide) rfl rfl ga d13_11 rfl ?_
  intro T626 h626 W626 R626
  have f627 := f621.wr R626
  have f628 := f622.other R626 (Or.inr (slot_ne (Or.inr (w86 hw)) (Or.inr (w88 hw)) (by decide) (t := .int) (t' := (.object "java/util/BitSet")) (by decide) (by decide)))
  have f629 := f623.same R626
  have k630 := k624.wr R626 (Or.inl (by simp))
  have z631 := Nat.le_trans z625 (Keep.of_wr R626).1
  exact go_retV W626 rfl d13_14 (nb rfl) (nb rfl) (⟨rfl, k630, f628, f629⟩)
set_option maxRecDepth 65536 in
set_option maxHeartbeats 4000000 in
theorem rm18 (l : Launch) (Z : State) (a0 : Array Value) (hw : Hw a0 Z) (a : Addr) (mc : Int32) (de : Addr) (h0 : Heap) (n0 : Nat) (Z0 : n0 ≤ h0.size) (Ea : Exa Z h0 a "java/util/ArrayList") (F0 : Fld Z h0 a "java/util/AbstractList" "modCount" "I" (.int mc)) (F1 : Fld Z h0 a "java/util/ArrayList" "elementData" "[Ljava/lang/Object;" (.ref de)) (F2 : Fld Z h0 a "java/util/ArrayList" "size" "I" (.int (0 : Int32))) (ga : n0 ≤ a) (Sd : Sta Z h0 "java/util/ArrayList" "DEFAULTCAPACITY_EMPTY_ELEMENTDATA" "[Ljava/lang/Object;" (.ref de)) (Ad : Af Z h0 de (.object OB) 0 (fun _ => .null)) (nad : a ≠ de) :
    Ct l Z K18 #[(.ref a), (.int (1 : Int32))] h0 n0 (fun v h => ∃ y : Addr, v = some (.ref y) ∧ n0 ≤ y ∧ h0.size ≤ y ∧ Keep h0 h [a] ∧ Fld Z h a "java/util/AbstractList" "modCount" "I" (.int mc) ∧ Fld Z h a "java/util/ArrayList" "elementData" "[Ljava/lang/Object;" (.ref y) ∧ Fld Z h a "java/util/ArrayList" "size" "I" (.int (0 : Int32)) ∧ Af Z h y (.object OB) 10 (fun _ => .null) ∧ Exa Z h y OA) := by
  refine Ct.of (Ls := #[.val (.ref a), .val (.int (1 : Int32)), .unset, .unset]) (plainFor_of_name (by first | decide +kernel | (simp [plainName, overriddenIn]; done))) (fun m => by first | rfl | (simp [entryFrame, mkF, argsToLocals, Value.category]; done)) ?_
  intro E T W
  refine go_aloadN (pc' := 1) W d18_0 rfl rfl rfl ?_
  refine go_getF (pc' := 4) W (host := "") (Or.inl (w24 hw)) Via.refl F1 d18_1 rfl ?_
  intro T632 W632
  refine go_lenF (pc' := 5) (z := (0 : Int32)) W632 Ad rfl d18_4 rfl ?_
  refine go_istoreN (pc' := 6) (l' := #[.val (.ref a), .val (.int (1 : Int32)), .val (.int (0 : Int32)), .unset]) W632 d18_5 rfl rfl ?_
  refine go_iloadN (pc' := 7) W632 d18_6 rfl rfl ?_
  refine go_if_gt (pt := 20) (pf := 10) W632 d18_7 (by decide) rfl rfl (fun c7_633 => ?_) (fun c7_633 => ?_)
  · exact absurd c7_633 (by decide)
  · -- pc 7 not taken
    refine go_aloadN (pc' := 11) W632 d18_10 rfl rfl rfl ?_
    refine go_getF (pc' := 14) W632 (host := "") (Or.inl (w24 hw)) Via.refl F1 d18_11 rfl ?_
    intro T634 W634
    refine go_getS (pc' := 17) W634 (host := "") (Or.inl (w23 hw)) Via.refl Sd d18_14 rfl ?_
    intro T635 W635
    refine go_acmp_eq (pt := 45) (pf := 20) W635 d18_17 rfl rfl (by decide) rfl rfl (fun c17_636 => ?_) (fun c17_636 => ?_)
    · -- pc 17 taken
      replace c17_636 : de = de := Value.ref.inj c17_636
      refine go_aloadN (pc' := 46) W635 d18_45 rfl rfl rfl ?_
      refine go_bipush (pc' := 48) (z := 10) W635 d18_46 (by decide) rfl ?_
      refine go_iloadN (pc' := 49) W635 d18_48 rfl rfl ?_
      refine go_callS (kc := K19) (argsL := [(.int (10 : Int32)), (.int (1 : Int32))]) (rest := [(.ref a)]) (pc' := 52) W635 (w113 hw) (w114 hw) (w115 hw) (w116 hw) (rmL19_10_1 E.l Z a0 hw h0 n0 Z0) (by decide) pd3 rfl rfl rfl (nb rfl) (nb rfl) (nb rfl) (nb rfl) d18_49 rfl ?_
      rintro _ T637 h637 ⟨rfl, q637⟩ W637
      replace W637 := W637.sub q637
      show Go E _ (Fm E T637 52 #[.val (.ref a), .val (.int (1 : Int32)), .val (.int (0 : Int32)), .unset] [(.int (10 : Int32)), (.ref a)])
      refine go_newRF (pc' := 55) (n := 10) W637 (w117 hw) (w118 hw) d18_52 (by decide) (by decide) (by decide) (nb rfl) (nb rfl) rfl ?_
      intro T638 h638 b638 g638 W638 E638 A638 X638
      have ne639 : a ≠ b638 := by rw [g638]; exact Nat.ne_of_lt Ea.lt
      have ne640 : de ≠ b638 := by rw [g638]; exact Nat.ne_of_lt Ad.lt
      have ge641 : n0 ≤ b638 := by rw [g638]; exact Z0
      have old642 : h0.size ≤ b638 := by rw [g638]; exact (Keep.refl h0 [a]).1
      have f643 := Ea.ext E638
      have f644 := F0.ext E638
      have f645 := F1.ext E638
      have f646 := F2.ext E638
      have f647 := Sd.ext E638
      have f648 := Ad.ext E638
      have k649 := (Keep.refl h0 [a]).ext E638
      have z650 := Nat.le_trans Z0 E638.1
      refine go_dupX1 (pc' := 56) W638 d18_55 rfl rfl rfl ?_
      refine go_putF (pc' := 59) W638 (host := "") (Or.inl (w24 hw)) Via.refl f645 f643 (Or.inl (w25 hw)) (w1 hw) (ty := (.array (.object "java/lang/Object"))) (by decide) rfl rfl ga d18_56 rfl ?_
      intro T651 h651 W651 R651
      have f652 := f643.wr R651
      have f653 := f644.other R651 (Or.inr (slot_ne (Or.inl (w22 hw)) (Or.inl (w25 hw)) (by decide) (t := .int) (t' := (.array (.object "java/lang/Object"))) (by decide) (by decide)))
      have f654 := f645.same R651
      have f655 := f646.other R651 (Or.inr (slot_ne (Or.inl (w97 hw)) (Or.inl (w25 hw)) (by decide) (t := .int) (t' := (.array (.object "java/lang/Object"))) (by decide) (by decide)))
      have f656 := f647.wr R651
      have f657 := f648.other R651 (Ne.symm nad)
      have f658 := A638.other R651 (Ne.symm ne639)
      have f659 := X638.wr R651
      have k660 := k649.wr R651 (Or.inl (by simp))
      have z661 := Nat.le_trans z650 (Keep.of_wr R651).1
      exact go_retA W651 (t := (.array (.object "java/lang/Object"))) rfl rfl rfl rfl d18_59 (nb rfl) (nb rfl) (⟨b638, rfl, ge641, old642, k660, f653, f654, f655, f658, f659⟩)
    · exact absurd rfl c17_636
set_option maxRecDepth 65536 in
set_option maxHeartbeats 4000000 in
theorem rm17 (l : Launch) (Z : State) (a0 : Array Value) (hw : Hw a0 Z) (a : Addr) (mc : Int32) (de : Addr) (h0 : Heap) (n0 : Nat) (Z0 : n0 ≤ h0.size) (Ea : Exa Z h0 a "java/util/ArrayList") (F0 : Fld Z h0 a "java/util/AbstractList" "modCount" "I" (.int mc)) (F1 : Fld Z h0 a "java/util/ArrayList" "elementData" "[Ljava/lang/Object;" (.ref de)) (F2 : Fld Z h0 a "java/util/ArrayList" "size" "I" (.int (0 : Int32))) (ga : n0 ≤ a) (Sd : Sta Z h0 "java/util/ArrayList" "DEFAULTCAPACITY_EMPTY_ELEMENTDATA" "[Ljava/lang/Object;" (.ref de)) (Ad : Af Z h0 de (.object OB) 0 (fun _ => .null)) (nad : a ≠ de) :
    Ct l Z K17 #[(.ref a)] h0 n0 (fun v h => ∃ y : Addr, v = some (.ref y) ∧ n0 ≤ y ∧ h0.size ≤ y ∧ Keep h0 h [a] ∧ Fld Z h a "java/util/AbstractList" "modCount" "I" (.int mc) ∧ Fld Z h a "java/util/ArrayList" "elementData" "[Ljava/lang/Object;" (.ref y) ∧ Fld Z h a "java/util/ArrayList" "size" "I" (.int (0 : Int32)) ∧ Af Z h y (.object OB) 10 (fun _ => .null) ∧ Exa Z h y OA) := by
  refine Ct.of (Ls := #[.val (.ref a)]) (plainFor_of_name (by first | decide +kernel | (simp [plainName, overriddenIn]; done))) (fun m => by first | rfl | (simp [entryFrame, mkF, argsToLocals, Value.category]; done)) ?_
  intro E T W
  refine go_aloadN (pc' := 1) W d17_0 rfl rfl rfl ?_
  refine go_aloadN (pc' := 2) W d17_1 rfl rfl rfl ?_
  refine go_getF (pc' := 5) W (host := "") (Or.inl (w96 hw)) Via.refl F2 d17_2 rfl ?_
  intro T662 W662
  refine go_iconst (pc' := 6) (z := 1) W662 d17_5 rfl rfl ?_
  refine go_iaddZ (pc' := 7) (z := 1) W662 d17_6 (by decide) rfl ?_
  refine go_callP (a := a) (kc := K18) (argsL := [(.int (1 : Int32))]) (rest := []) (pc' := 10) W662 (w108 hw) (w109 hw) (w111 hw) (w110 hw) (w2 hw) (w112 hw) Ea (rm18 E.l Z a0 hw a mc de h0 n0 Z0 Ea F0 F1 F2 ga Sd Ad nad ) (by decide) pd5 rfl rfl rfl (nb rfl) (nb rfl) (nb rfl) (nb rfl) d17_7 rfl ?_
  rintro _ T663 h663 ⟨y663, rfl, gy663, so663, K663, g663_0, g663_1, g663_2, ay663, ey663⟩ W663
  have ne664 : a ≠ y663 := Nat.ne_of_lt (Nat.lt_of_lt_of_le Ea.lt so663)
  have ne665 : de ≠ y663 := Nat.ne_of_lt (Nat.lt_of_lt_of_le Ad.lt so663)
  have old666 : h0.size ≤ y663 := Nat.le_trans (Keep.refl h0 [a]).1 so663
  have f667 := Ea.keep K663
  have k671 := (Keep.refl h0 [a]).trans K663 (allS (Or.inl (by simp)) all0)
  have z672 := Nat.le_trans Z0 K663.1
  have f673 := Ad.keep K663 (ninS (Ne.symm nad) nin0)
  have f674 := Sta.keepN Sd K663 (allS (Ns.exa Ea) all0)
  show Go E _ (Fm E T663 10 #[.val (.ref a)] [(.ref y663)])
  exact go_retA W663 (t := (.array (.object "java/lang/Object"))) rfl rfl rfl rfl d17_10 (nb rfl) (nb rfl) (⟨y663, rfl, gy663, old666, k671, g663_0, g663_1, g663_2, ay663, ey663⟩)
set_option maxRecDepth 65536 in
set_option maxHeartbeats 4000000 in
theorem rmA3_0 (l : Launch) (Z : State) (a0 : Array Value) (hw : Hw a0 Z) (a : Addr) (e : Addr) (mc : Int32) (de : Addr) (h0 : Heap) (n0 : Nat) (Z0 : n0 ≤ h0.size) (Ea : Exa Z h0 a "java/util/ArrayList") (F0 : Fld Z h0 a "java/util/AbstractList" "modCount" "I" (.int mc)) (F1 : Fld Z h0 a "java/util/ArrayList" "elementData" "[Ljava/lang/Object;" (.ref de)) (F2 : Fld Z h0 a "java/util/ArrayList" "size" "I" (.int (0 : Int32))) (ga : n0 ≤ a) (Sd : Sta Z h0 "java/util/ArrayList" "DEFAULTCAPACITY_EMPTY_ELEMENTDATA" "[Ljava/lang/Object;" (.ref de)) (Ad : Af Z h0 de (.object OB) 0 (fun _ => .null)) (nad : a ≠ de) (Ie : Ins Z h0 e OB true) :
    Ct l Z K16 #[(.ref a), (.ref e), (.ref de), (.int (0 : Int32))] h0 n0 (fun v h => ∃ y : Addr, v = none ∧ n0 ≤ y ∧ h0.size ≤ y ∧ Keep h0 h [a] ∧ Fld Z h a "java/util/AbstractList" "modCount" "I" (.int mc) ∧ Fld Z h a "java/util/ArrayList" "elementData" "[Ljava/lang/Object;" (.ref y) ∧ Fld Z h a "java/util/ArrayList" "size" "I" (.int (1 : Int32)) ∧ Af Z h y (.object OB) 10 (fun j => (if j = 0 then (.ref e) else .null)) ∧ Exa Z h y OA) := by
  refine Ct.of (Ls := #[.val (.ref a), .val (.ref e), .val (.ref de), .val (.int (0 : Int32))]) (plainFor_of_name (by first | decide +kernel | (simp [plainName, overriddenIn]; done))) (fun m => by first | rfl | (simp [entryFrame, mkF, argsToLocals, Value.category]; done)) ?_
  intro E T W
  refine go_iloadN (pc' := 1) W d16_0 rfl rfl ?_
  refine go_aloadN (pc' := 2) W d16_1 rfl rfl rfl ?_
  refine go_lenF (pc' := 3) (z := (0 : Int32)) W Ad rfl d16_2 rfl ?_
  refine go_icmp_ne (pt := 11) (pf := 6) W d16_3 (by decide) rfl rfl (fun c3_675 => ?_) (fun c3_675 => ?_)
  · exact absurd c3_675 (by decide)
  · -- pc 3 not taken
    refine go_aloadN (pc' := 7) W d16_6 rfl rfl rfl ?_
    refine go_callP (a := a) (kc := K17) (argsL := []) (rest := []) (pc' := 10) W (w103 hw) (w104 hw) (w106 hw) (w105 hw) (w2 hw) (w107 hw) Ea (rm17 E.l Z a0 hw a mc de h0 n0 Z0 Ea F0 F1 F2 ga Sd Ad nad ) (by decide) pd6 rfl rfl rfl (nb rfl) (nb rfl) (nb rfl) (nb rfl) d16_7 rfl ?_
    rintro _ T676 h676 ⟨y676, rfl, gy676, so676, K676, g676_0, g676_1, g676_2, ay676, ey676⟩ W676
    have ne677 : a ≠ y676 := Nat.ne_of_lt (Nat.lt_of_lt_of_le Ea.lt so676)
    have ne678 : de ≠ y676 := Nat.ne_of_lt (Nat.lt_of_lt_of_le Ad.lt so676)
    have old679 : h0.size ≤ y676 := Nat.le_trans (Keep.refl h0 [a]).1 so676
    have f680 := Ea.keep K676
    have k684 := (Keep.refl h0 [a]).trans K676 (allS (Or.inl (by simp)) all0)
    have z685 := Nat.le_trans Z0 K676.1
    have f686 := Ad.keep K676 (ninS (Ne.symm nad) nin0)
    have f687 := Sta.keepN Sd K676 (allS (Ns.exa Ea) all0)
    have f688 := Ins.keepK Ie K676
    show Go E _ (Fm E T676 10 #[.val (.ref a), .val (.ref e), .val (.ref de), .val (.int (0 : Int32))] [(.ref y676)])
    refine go_astoreN (pc' := 11) (l' := #[.val (.ref a), .val (.ref e), .val (.ref y676), .val (.int (0 : Int32))]) W676 d16_10 rfl rfl rfl ?_
    refine go_aloadN (pc' := 12) W676 d16_11 rfl rfl rfl ?_
    refine go_iloadN (pc' := 13) W676 d16_12 rfl rfl ?_
    refine go_aloadN (pc' := 14) W676 d16_13 rfl rfl rfl ?_
    refine go_stRF (pc' := 15) (i := 0) W676 ay676 ey676 (w118 hw) f688 (by decide) (by decide) gy676 d16_14 rfl ?_
    intro T689 h689 W689 R689 A689
    have f690 := f680.wr R689
    have f691 := f686.other R689 ne678
    have f692 := f687.wr R689
    have f694 := g676_0.other R689 (Or.inl ne677)
    have f695 := g676_1.other R689 (Or.inl ne677)
    have f696 := g676_2.other R689 (Or.inl ne677)
    have f698 := ey676.wr R689
    have k699 := k684.wr R689 (Or.inr old679)
    have z700 := Nat.le_trans z685 (Keep.of_wr R689).1
    have f701 := f688.wr R689
    refine go_aloadN (pc' := 16) W689 d16_15 rfl rfl rfl ?_
    refine go_iloadN (pc' := 17) W689 d16_16 rfl rfl ?_
    refine go_iconst (pc' := 18) (z := 1) W689 d16_17 rfl rfl ?_
    refine go_iaddZ (pc' := 19) (z := 1) W689 d16_18 (by decide) rfl ?_
    refine go_putF (pc' := 22) W689 (host := "") (Or.inl (w96 hw)) Via.refl f696 f690 (Or.inl (w97 hw)) (w1 hw) (ty := .int) (by decide) rfl rfl ga d16_19 rfl ?_
    intro T702 h702 W702 R702
    have f703 := f690.wr R702
    have f704 := f691.other R702 (Ne.symm nad)
    have f705 := f692.wr R702
    have f706 := f694.other R702 (Or.inr (slot_ne (Or.inl (w22 hw)) (Or.inl (w97 hw)) (by decide) (t := .int) (t' := .int) (by decide) (by decide)))
    have f707 := f695.other R702 (Or.inr (slot_ne (Or.inl (w25 hw)) (Or.inl (w97 hw)) (by decide) (t := (.array (.object "java/lang/Object"))) (t' := .int) (by decide) (by decide)))
    have f708 := f696.same R702
    have f709 := f698.wr R702
    have f711 := A689.other R702 (Ne.symm ne677)
    have k712 := k699.wr R702 (Or.inl (by simp))
    have z713 := Nat.le_trans z700 (Keep.of_wr R702).1
    have f714 := f701.wr R702
    exact go_retV W702 rfl d16_22 (nb rfl) (nb rfl) (⟨y676, rfl, gy676, old679, k712, f706, f707, f708, (f711.congr (fun j hj => by match j, hj with | 0, _ => rfl | 1, _ => rfl | 2, _ => rfl | 3, _ => rfl | 4, _ => rfl | 5, _ => rfl | 6, _ => rfl | 7, _ => rfl | 8, _ => rfl | 9, _ => rfl)), f709⟩)
set_option maxRecDepth 65536 in
set_option maxHeartbeats 4000000 in
theorem rmA_0 (l : Launch) (Z : State) (a0 : Array Value) (hw : Hw a0 Z) (a : Addr) (e : Addr) (mc : Int32) (de : Addr) (h0 : Heap) (n0 : Nat) (Z0 : n0 ≤ h0.size) (Ea : Exa Z h0 a "java/util/ArrayList") (F0 : Fld Z h0 a "java/util/AbstractList" "modCount" "I" (.int mc)) (F1 : Fld Z h0 a "java/util/ArrayList" "elementData" "[Ljava/lang/Object;" (.ref de)) (F2 : Fld Z h0 a "java/util/ArrayList" "size" "I" (.int (0 : Int32))) (ga : n0 ≤ a) (Sd : Sta Z h0 "java/util/ArrayList" "DEFAULTCAPACITY_EMPTY_ELEMENTDATA" "[Ljava/lang/Object;" (.ref de)) (Ad : Af Z h0 de (.object OB) 0 (fun _ => .null)) (nad : a ≠ de) (Ie : Ins Z h0 e OB true) :
    Ct l Z K15 #[(.ref a), (.ref e)] h0 n0 (fun v h => ∃ y : Addr, v = some (.int 1) ∧ n0 ≤ y ∧ h0.size ≤ y ∧ Keep h0 h [a] ∧ Fld Z h a "java/util/AbstractList" "modCount" "I" (.int (mc + (1 : Int32))) ∧ Fld Z h a "java/util/ArrayList" "elementData" "[Ljava/lang/Object;" (.ref y) ∧ Fld Z h a "java/util/ArrayList" "size" "I" (.int (1 : Int32)) ∧ Af Z h y (.object OB) 10 (fun j => (if j = 0 then (.ref e) else .null)) ∧ Exa Z h y OA) := by
  refine Ct.of (Ls := #[.val (.ref a), .val (.ref e)]) (plainFor_of_name (by first | decide +kernel | (simp [plainName, overriddenIn]; done))) (fun m => by first | rfl | (simp [entryFrame, mkF, argsToLocals, Value.category]; done)) ?_
  intro E T W
  refine go_aloadN (pc' := 1) W d15_0 rfl rfl rfl ?_
  refine go_dup (pc' := 2) W d15_1 rfl rfl ?_
  refine go_getF (pc' := 5) W (host := "") (Or.inl (w94 hw)) (Via.of (w95 hw)) F0 d15_2 rfl ?_
  intro T715 W715
  refine go_iconst (pc' := 6) (z := 1) W715 d15_5 rfl rfl ?_
  refine go_iadd (pc' := 7) W715 d15_6 rfl ?_
  refine go_putF (pc' := 10) W715 (host := "") (Or.inl (w94 hw)) (Via.of (w95 hw)) F0 Ea (Or.inl (w22 hw)) (w1 hw) (ty := .int) (by decide) rfl rfl ga d15_7 rfl ?_
  intro T716 h716 W716 R716
  have f717 := Ea.wr R716
  have f718 := F0.same R716
  have f719 := F1.other R716 (Or.inr (slot_ne (Or.inl (w25 hw)) (Or.inl (w22 hw)) (by decide) (t := (.array (.object "java/lang/Object"))) (t' := .int) (by decide) (by decide)))
  have f720 := F2.other R716 (Or.inr (slot_ne (Or.inl (w97 hw)) (Or.inl (w22 hw)) (by decide) (t := .int) (t' := .int) (by decide) (by decide)))
  have f721 := Sd.wr R716
  have f722 := Ad.other R716 (Ne.symm nad)
  have k724 := (Keep.refl h0 [a]).wr R716 (Or.inl (by simp))
  have z725 := Nat.le_trans Z0 (Keep.of_wr R716).1
  have f726 := Ie.wr R716
  refine go_aloadN (pc' := 11) W716 d15_10 rfl rfl rfl ?_
  refine go_aloadN (pc' := 12) W716 d15_11 rfl rfl rfl ?_
  refine go_aloadN (pc' := 13) W716 d15_12 rfl rfl rfl ?_
  refine go_getF (pc' := 16) W716 (host := "") (Or.inl (w24 hw)) Via.refl f719 d15_13 rfl ?_
  intro T727 W727
  refine go_aloadN (pc' := 17) W727 d15_16 rfl rfl rfl ?_
  refine go_getF (pc' := 20) W727 (host := "") (Or.inl (w96 hw)) Via.refl f720 d15_17 rfl ?_
  intro T728 W728
  refine go_callP (a := a) (kc := K16) (argsL := [(.ref e), (.ref de), (.int (0 : Int32))]) (rest := []) (pc' := 23) W728 (w98 hw) (w99 hw) (w101 hw) (w100 hw) (w2 hw) (w102 hw) f717 (rmA3_0 E.l Z a0 hw a e (mc + (1 : Int32)) de h716 n0 z725 f717 f718 f719 f720 ga f721 f722 nad f726) (by decide) pd7 rfl rfl rfl (nb rfl) (nb rfl) (nb rfl) (nb rfl) d15_20 rfl ?_
  rintro _ T729 h729 ⟨y729, rfl, gy729, so729, K729, g729_0, g729_1, g729_2, ay729, ey729⟩ W729
  have ne730 : a ≠ y729 := Nat.ne_of_lt (Nat.lt_of_lt_of_le f717.lt so729)
  have ne731 : de ≠ y729 := Nat.ne_of_lt (Nat.lt_of_lt_of_le f722.lt so729)
  have old732 : h0.size ≤ y729 := Nat.le_trans k724.1 so729
  have f733 := f717.keep K729
  have k737 := k724.trans K729 (allS (Or.inl (by simp)) all0)
  have z738 := Nat.le_trans z725 K729.1
  have f739 := f722.keep K729 (ninS (Ne.symm nad) nin0)
  have f740 := Sta.keepN f721 K729 (allS (Ns.exa f717) all0)
  have f741 := Ins.keepK f726 K729
  show Go E _ (Fm E T729 23 #[.val (.ref a), .val (.ref e)] [])
  refine go_iconst (pc' := 24) (z := 1) W729 d15_23 rfl rfl ?_
  exact go_retI W729 (t := .boolean) rfl (by simp) rfl d15_24 (nb rfl) (nb rfl) (⟨y729, rfl, gy729, old732, k737, g729_0, g729_1, g729_2, ay729, ey729⟩)
set_option maxRecDepth 65536 in
set_option maxHeartbeats 4000000 in
theorem rmA3_1 (l : Launch) (Z : State) (a0 : Array Value) (hw : Hw a0 Z) (a : Addr) (e : Addr) (y : Addr) (mc : Int32) (d : Addr) (h0 : Heap) (n0 : Nat) (Z0 : n0 ≤ h0.size) (Ea : Exa Z h0 a "java/util/ArrayList") (F0 : Fld Z h0 a "java/util/AbstractList" "modCount" "I" (.int mc)) (F1 : Fld Z h0 a "java/util/ArrayList" "elementData" "[Ljava/lang/Object;" (.ref y)) (F2 : Fld Z h0 a "java/util/ArrayList" "size" "I" (.int (1 : Int32))) (ga : n0 ≤ a) (gy : n0 ≤ y) (nay : a ≠ y) (Ay : Af Z h0 y (.object OB) 10 (fun j => (if j = 0 then (.ref d) else .null))) (Ey : Exa Z h0 y OA) (Ie : Ins Z h0 e OB true) :
    Ct l Z K16 #[(.ref a), (.ref e), (.ref y), (.int (1 : Int32))] h0 n0 (fun v h => v = none ∧ Keep h0 h [a, y] ∧ Fld Z h a "java/util/AbstractList" "modCount" "I" (.int mc) ∧ Fld Z h a "java/util/ArrayList" "elementData" "[Ljava/lang/Object;" (.ref y) ∧ Fld Z h a "java/util/ArrayList" "size" "I" (.int (2 : Int32)) ∧ Af Z h y (.object OB) 10 (fun j => (if j = 1 then (.ref e) else (if j = 0 then (.ref d) else .null)))) := by
  refine Ct.of (Ls := #[.val (.ref a), .val (.ref e), .val (.ref y), .val (.int (1 : Int32))]) (plainFor_of_name (by first | decide +kernel | (simp [plainName, overriddenIn]; done))) (fun m => by first | rfl | (simp [entryFrame, mkF, argsToLocals, Value.category]; done)) ?_
  intro E T W
  refine go_iloadN (pc' := 1) W d16_0 rfl rfl ?_
  refine go_aloadN (pc' := 2) W d16_1 rfl rfl rfl ?_
  refine go_lenF (pc' := 3) (z := (10 : Int32)) W Ay rfl d16_2 rfl ?_
  refine go_icmp_ne (pt := 11) (pf := 6) W d16_3 (by decide) rfl rfl (fun c3_742 => ?_) (fun c3_742 => ?_)
  · -- pc 3 taken
    refine go_aloadN (pc' := 12) W d16_11 rfl rfl rfl ?_
    refine go_iloadN (pc' := 13) W d16_12 rfl rfl ?_
    refine go_aloadN (pc' := 14) W d16_13 rfl rfl rfl ?_
    refine go_stRF (pc' := 15) (i := 1) W Ay Ey (w118 hw) Ie (by decide) (by decide) gy d16_14 rfl ?_
    intro T743 h743 W743 R743 A743
    have f744 := Ea.wr R743
    have f745 := F0.other R743 (Or.inl nay)
    have f746 := F1.other R743 (Or.inl nay)
    have f747 := F2.other R743 (Or.inl nay)
    have f749 := Ey.wr R743
    have k751 := (Keep.refl h0 [a, y]).wr R743 (Or.inl (by simp))
    have z752 := Nat.le_trans Z0 (Keep.of_wr R743).1
    have f753 := Ie.wr R743
    refine go_aloadN (pc' := 16) W743 d16_15 rfl rfl rfl ?_
    refine go_iloadN (pc' := 17) W743 d16_16 rfl rfl ?_
    refine go_iconst (pc' := 18) (z := 1) W743 d16_17 rfl rfl ?_
    refine go_iaddZ (pc' := 19) (z := 2) W743 d16_18 (by decide) rfl ?_
    refine go_putF (pc' := 22) W743 (host := "") (Or.inl (w96 hw)) Via.refl f747 f744 (Or.inl (w97 hw)) (w1 hw) (ty := .int) (by decide) rfl rfl ga d16_19 rfl ?_
    intro T754 h754 W754 R754
    have f755 := f744.wr R754
    have f756 := f745.other R754 (Or.inr (slot_ne (Or.inl (w22 hw)) (Or.inl (w97 hw)) (by decide) (t := .int) (t' := .int) (by decide) (by decide)))
    have f757 := f746.other R754 (Or.inr (slot_ne (Or.inl (w25 hw)) (Or.inl (w97 hw)) (by decide) (t := (.array (.object "java/lang/Object"))) (t' := .int) (by decide) (by decide)))
    have f758 := f747.same R754
    have f759 := f749.wr R754
    have f761 := A743.other R754 (Ne.symm nay)
    have k762 := k751.wr R754 (Or.inl (by simp))
    have z763 := Nat.le_trans z752 (Keep.of_wr R754).1
    have f764 := f753.wr R754
    exact go_retV W754 rfl d16_22 (nb rfl) (nb rfl) (⟨rfl, k762, f756, f757, f758, (f761.congr (fun j hj => by match j, hj with | 0, _ => rfl | 1, _ => rfl | 2, _ => rfl | 3, _ => rfl | 4, _ => rfl | 5, _ => rfl | 6, _ => rfl | 7, _ => rfl | 8, _ => rfl | 9, _ => rfl))⟩)
  · exact absurd c3_742 (by decide)
set_option maxRecDepth 65536 in
set_option maxHeartbeats 4000000 in
theorem rmA_1 (l : Launch) (Z : State) (a0 : Array Value) (hw : Hw a0 Z) (a : Addr) (e : Addr) (y : Addr) (mc : Int32) (d : Addr) (h0 : Heap) (n0 : Nat) (Z0 : n0 ≤ h0.size) (Ea : Exa Z h0 a "java/util/ArrayList") (F0 : Fld Z h0 a "java/util/AbstractList" "modCount" "I" (.int mc)) (F1 : Fld Z h0 a "java/util/ArrayList" "elementData" "[Ljava/lang/Object;" (.ref y)) (F2 : Fld Z h0 a "java/util/ArrayList" "size" "I" (.int (1 : Int32))) (ga : n0 ≤ a) (gy : n0 ≤ y) (nay : a ≠ y) (Ay : Af Z h0 y (.object OB) 10 (fun j => (if j = 0 then (.ref d) else .null))) (Ey : Exa Z h0 y OA) (Ie : Ins Z h0 e OB true) :
    Ct l Z K15 #[(.ref a), (.ref e)] h0 n0 (fun v h => v = some (.int 1) ∧ Keep h0 h [a, y] ∧ Fld Z h a "java/util/AbstractList" "modCount" "I" (.int (mc + (1 : Int32))) ∧ Fld Z h a "java/util/ArrayList" "elementData" "[Ljava/lang/Object;" (.ref y) ∧ Fld Z h a "java/util/ArrayList" "size" "I" (.int (2 : Int32)) ∧ Af Z h y (.object OB) 10 (fun j => (if j = 1 then (.ref e) else (if j = 0 then (.ref d) else .null)))) := by
  refine Ct.of (Ls := #[.val (.ref a), .val (.ref e)]) (plainFor_of_name (by first | decide +kernel | (simp [plainName, overriddenIn]; done))) (fun m => by first | rfl | (simp [entryFrame, mkF, argsToLocals, Value.category]; done)) ?_
  intro E T W
  refine go_aloadN (pc' := 1) W d15_0 rfl rfl rfl ?_
  refine go_dup (pc' := 2) W d15_1 rfl rfl ?_
  refine go_getF (pc' := 5) W (host := "") (Or.inl (w94 hw)) (Via.of (w95 hw)) F0 d15_2 rfl ?_
  intro T765 W765
  refine go_iconst (pc' := 6) (z := 1) W765 d15_5 rfl rfl ?_
  refine go_iadd (pc' := 7) W765 d15_6 rfl ?_
  refine go_putF (pc' := 10) W765 (host := "") (Or.inl (w94 hw)) (Via.of (w95 hw)) F0 Ea (Or.inl (w22 hw)) (w1 hw) (ty := .int) (by decide) rfl rfl ga d15_7 rfl ?_
  intro T766 h766 W766 R766
  have f767 := Ea.wr R766
  have f768 := F0.same R766
  have f769 := F1.other R766 (Or.inr (slot_ne (Or.inl (w25 hw)) (Or.inl (w22 hw)) (by decide) (t := (.array (.object "java/lang/Object"))) (t' := .int) (by decide) (by decide)))
  have f770 := F2.other R766 (Or.inr (slot_ne (Or.inl (w97 hw)) (Or.inl (w22 hw)) (by decide) (t := .int) (t' := .int) (by decide) (by decide)))
  have f771 := Ay.other R766 (Ne.symm nay)
  have f772 := Ey.wr R766
  have k774 := (Keep.refl h0 [a, y]).wr R766 (Or.inl (by simp))
  have z775 := Nat.le_trans Z0 (Keep.of_wr R766).1
  have f776 := Ie.wr R766
  refine go_aloadN (pc' := 11) W766 d15_10 rfl rfl rfl ?_
  refine go_aloadN (pc' := 12) W766 d15_11 rfl rfl rfl ?_
  refine go_aloadN (pc' := 13) W766 d15_12 rfl rfl rfl ?_
  refine go_getF (pc' := 16) W766 (host := "") (Or.inl (w24 hw)) Via.refl f769 d15_13 rfl ?_
  intro T777 W777
  refine go_aloadN (pc' := 17) W777 d15_16 rfl rfl rfl ?_
  refine go_getF (pc' := 20) W777 (host := "") (Or.inl (w96 hw)) Via.refl f770 d15_17 rfl ?_
  intro T778 W778
  refine go_callP (a := a) (kc := K16) (argsL := [(.ref e), (.ref y), (.int (1 : Int32))]) (rest := []) (pc' := 23) W778 (w98 hw) (w99 hw) (w101 hw) (w100 hw) (w2 hw) (w102 hw) f767 (rmA3_1 E.l Z a0 hw a e y (mc + (1 : Int32)) d h766 n0 z775 f767 f768 f769 f770 ga gy nay f771 f772 f776) (by decide) pd7 rfl rfl rfl (nb rfl) (nb rfl) (nb rfl) (nb rfl) d15_20 rfl ?_
  rintro _ T779 h779 ⟨rfl, K779, g779_0, g779_1, g779_2, ay779⟩ W779
  have f780 := f767.keep K779
  have f784 := f772.keep K779
  have k785 := k774.trans K779 (allS (Or.inl (by simp)) (allS (Or.inl (by simp)) all0))
  have z786 := Nat.le_trans z775 K779.1
  have f787 := Ins.keepK f776 K779
  show Go E _ (Fm E T779 23 #[.val (.ref a), .val (.ref e)] [])
  refine go_iconst (pc' := 24) (z := 1) W779 d15_23 rfl rfl ?_
  exact go_retI W779 (t := .boolean) rfl (by simp) rfl d15_24 (nb rfl) (nb rfl) (⟨rfl, k785, g779_0, g779_1, g779_2, ay779⟩)
set_option maxRecDepth 65536 in
set_option maxHeartbeats 4000000 in
theorem rm32 (l : Launch) (Z : State) (a0 : Array Value) (hw : Hw a0 Z) (e : Addr)  (h0 : Heap) (n0 : Nat) (Z0 : n0 ≤ h0.size)  :
    Ct l Z K32 #[(.ref e)] h0 n0 (fun v h => v = some (.ref e) ∧ h = h0) := by
  refine Ct.of (Ls := #[.val (.ref e)]) (plainFor_of_name (by first | decide +kernel | (simp [plainName, overriddenIn]; done))) (fun m => by first | rfl | (simp [entryFrame, mkF, argsToLocals, Value.category]; done)) ?_
  intro E T W
  refine go_aloadN (pc' := 1) W d32_0 rfl rfl rfl ?_
  refine go_ifnonnull_ref (pc' := 12) W d32_1 (by decide) rfl ?_
  refine go_aloadN (pc' := 13) W d32_12 rfl rfl rfl ?_
  exact go_retA W (t := (.object "java/lang/Object")) rfl rfl rfl rfl d32_13 (nb rfl) (nb rfl) (⟨rfl, rfl⟩)
set_option maxRecDepth 65536 in
set_option maxHeartbeats 4000000 in
theorem rm29 (l : Launch) (Z : State) (a0 : Array Value) (hw : Hw a0 Z) (a : Addr) (d : Addr) (e : Addr)  (h0 : Heap) (n0 : Nat) (Z0 : n0 ≤ h0.size) (Ea : Exa Z h0 a "java/util/ImmutableCollections$List12") (F0 : Fld Z h0 a "java/util/ImmutableCollections$List12" "e0" "Ljava/lang/Object;" .null) (F1 : Fld Z h0 a "java/util/ImmutableCollections$List12" "e1" "Ljava/lang/Object;" .null) (ga : n0 ≤ a)  :
    Ct l Z K29 #[(.ref a), (.ref d), (.ref e)] h0 n0 (fun v h => v = none ∧ Keep h0 h [a] ∧ Fld Z h a "java/util/ImmutableCollections$List12" "e0" "Ljava/lang/Object;" (.ref d) ∧ Fld Z h a "java/util/ImmutableCollections$List12" "e1" "Ljava/lang/Object;" (.ref e)) := by
  refine Ct.of (Ls := #[.val (.ref a), .val (.ref d), .val (.ref e)]) (plainFor_of_name (by first | decide +kernel | (simp [plainName, overriddenIn]; done))) (fun m => by first | rfl | (simp [entryFrame, mkF, argsToLocals, Value.category]; done)) ?_
  intro E T W
  refine go_aloadN (pc' := 1) W d29_0 rfl rfl rfl ?_
  refine go_callN (a := a) (kc := K30) (argsL := []) (rest := []) (pc' := 4) W (w193 hw) (w194 hw) (w197 hw) (w198 hw) (rm30 E.l Z a0 hw a h0 n0 Z0) rfl rfl (by decide) pd0 rfl rfl rfl (nb rfl) (nb rfl) (nb rfl) (nb rfl) d29_1 rfl ?_
  rintro _ T788 h788 ⟨rfl, q788⟩ W788
  replace W788 := W788.sub q788
  show Go E _ (Fm E T788 4 #[.val (.ref a), .val (.ref d), .val (.ref e)] [])
  refine go_aloadN (pc' := 5) W788 d29_4 rfl rfl rfl ?_
  refine go_aloadN (pc' := 6) W788 d29_5 rfl rfl rfl ?_
  refine go_callS (kc := K32) (argsL := [(.ref d)]) (rest := [(.ref a)]) (pc' := 9) W788 (w207 hw) (w208 hw) (w209 hw) (w210 hw) (rm32 E.l Z a0 hw d h0 n0 Z0) (by decide) pd8 rfl rfl rfl (nb rfl) (nb rfl) (nb rfl) (nb rfl) d29_6 rfl ?_
  rintro _ T789 h789 ⟨rfl, q789⟩ W789
  replace W789 := W789.sub q789
  show Go E _ (Fm E T789 9 #[.val (.ref a), .val (.ref d), .val (.ref e)] [(.ref d), (.ref a)])
  refine go_putF (pc' := 12) W789 (host := "") (Or.inl (w211 hw)) Via.refl F0 Ea (Or.inr ⟨(w212 hw), rfl, rfl⟩) (w187 hw) (ty := (.object "java/lang/Object")) (by decide) rfl rfl ga d29_9 rfl ?_
  intro T790 h790 W790 R790
  have f791 := Ea.wr R790
  have f792 := F0.same R790
  have f793 := F1.other R790 (Or.inr (slot_ne (Or.inr (w214 hw)) (Or.inr (w212 hw)) (by decide) (t := (.object "java/lang/Object")) (t' := (.object "java/lang/Object")) (by decide) (by decide)))
  have k794 := (Keep.refl h0 [a]).wr R790 (Or.inl (by simp))
  have z795 := Nat.le_trans Z0 (Keep.of_wr R790).1
  refine go_aloadN (pc' := 13) W790 d29_12 rfl rfl rfl ?_
  refine go_aloadN (pc' := 14) W790 d29_13 rfl rfl rfl ?_
  refine go_callS (kc := K32) (argsL := [(.ref e)]) (rest := [(.ref a)]) (pc' := 17) W790 (w207 hw) (w208 hw) (w209 hw) (w210 hw) (rm32 E.l Z a0 hw e h790 n0 z795) (by decide) pd8 rfl rfl rfl (nb rfl) (nb rfl) (nb rfl) (nb rfl) d29_14 rfl ?_
  rintro _ T796 h796 ⟨rfl, q796⟩ W796
  replace W796 := W796.sub q796
  show Go E _ (Fm E T796 17 #[.val (.ref a), .val (.ref d), .val (.ref e)] [(.ref e), (.ref a)])
  refine go_putF (pc' := 20) W796 (host := "") (Or.inl (w213 hw)) Via.refl f793 f791 (Or.inr ⟨(w214 hw), rfl, rfl⟩) (w187 hw) (ty := (.object "java/lang/Object")) (by decide) rfl rfl ga d29_17 rfl ?_
  intro T797 h797 W797 R797
  have f798 := f791.wr R797
  have f799 := f792.other R797 (Or.inr (slot_ne (Or.inr (w212 hw)) (Or.inr (w214 hw)) (by decide) (t := (.object "java/lang/Object")) (t' := (.object "java/lang/Object")) (by decide) (by decide)))
  have f800 := f793.same R797
  have k801 := k794.wr R797 (Or.inl (by simp))
  have z802 := Nat.le_trans z795 (Keep.of_wr R797).1
  exact go_retV W797 rfl d29_20 (nb rfl) (nb rfl) (⟨rfl, k801, f799, f800⟩)
set_option maxRecDepth 65536 in
set_option maxHeartbeats 4000000 in
theorem rm26 (l : Launch) (Z : State) (a0 : Array Value) (hw : Hw a0 Z) (y : Addr) (mr : Addr) (d e : Addr) (h0 : Heap) (n0 : Nat) (Z0 : n0 ≤ h0.size) (Mr : Mm Z OA mr) (Ay : Af Z h0 y (.object OB) 10 (fun j => (if j = 1 then (.ref e) else (if j = 0 then (.ref d) else .null)))) (Ey : Exa Z h0 y OA) (Id : Ins Z h0 d OB true) (Ie : Ins Z h0 e OB true) :
    Ct l Z K26 #[(.ref y), (.int (2 : Int32)), (.ref mr)] h0 n0 (fun v h => ∃ r : Addr, v = some (.ref r) ∧ n0 ≤ r ∧ h0.size ≤ r ∧ Keep h0 h [] ∧ Af Z h r (.object OB) 2 (fun j => if j = 0 then (.ref d) else (.ref e)) ∧ Exa Z h r OA) := by
  refine Ct.of (Ls := #[.val (.ref y), .val (.int (2 : Int32)), .val (.ref mr), .unset]) (plainFor_of_name (by first | decide +kernel | (simp [plainName, overriddenIn]; done))) (fun m => by first | rfl | (simp [entryFrame, mkF, argsToLocals, Value.category]; done)) ?_
  intro E T W
  refine go_aloadN (pc' := 1) W d26_0 rfl rfl rfl ?_
  refine go_ldcM (pc' := 3) W (w174 hw) Mr d26_1 rfl ?_
  intro T803 W803
  refine go_acmp_ne (pt := 13) (pf := 6) W803 d26_3 rfl rfl (by decide) rfl rfl (fun c3_804 => ?_) (fun c3_804 => ?_)
  · exact absurd rfl c3_804
  · -- pc 3 not taken
    replace c3_804 : mr = mr := Value.ref.inj c3_804
    refine go_iloadN (pc' := 7) W803 d26_6 rfl rfl ?_
    refine go_newRF (pc' := 10) (n := 2) W803 (w175 hw) (w118 hw) d26_7 (by decide) (by decide) (by decide) (nb rfl) (nb rfl) rfl ?_
    intro T805 h805 b805 g805 W805 E805 A805 X805
    have ne806 : y ≠ b805 := by rw [g805]; exact Nat.ne_of_lt Ay.lt
    have ge807 : n0 ≤ b805 := by rw [g805]; exact Z0
    have old808 : h0.size ≤ b805 := by rw [g805]; exact (Keep.refl h0 []).1
    have f809 := Ay.ext E805
    have f810 := Ey.ext E805
    have f811 := Id.ext E805
    have f812 := Ie.ext E805
    have k813 := (Keep.refl h0 []).ext E805
    have z814 := Nat.le_trans Z0 E805.1
    refine go_goto (pc' := 24) W805 d26_10 (by decide) rfl ?_
    refine go_astoreN (pc' := 25) (l' := #[.val (.ref y), .val (.int (2 : Int32)), .val (.ref mr), .val (.ref b805)]) W805 d26_24 rfl rfl rfl ?_
    refine go_aloadN (pc' := 26) W805 d26_25 rfl rfl rfl ?_
    refine go_iconst (pc' := 27) (z := 0) W805 d26_26 rfl rfl ?_
    refine go_aloadN (pc' := 28) W805 d26_27 rfl rfl rfl ?_
    refine go_iconst (pc' := 29) (z := 0) W805 d26_28 rfl rfl ?_
    refine go_aloadN (pc' := 30) W805 d26_29 rfl rfl rfl ?_
    refine go_lenF (pc' := 31) (z := (10 : Int32)) W805 f809 rfl d26_30 rfl ?_
    refine go_iloadN (pc' := 32) W805 d26_31 rfl rfl ?_
    refine go_callS (kc := K27) (argsL := [(.int (10 : Int32)), (.int (2 : Int32))]) (rest := [(.int (0 : Int32)), (.ref b805), (.int (0 : Int32)), (.ref y)]) (pc' := 35) W805 (w176 hw) (w177 hw) (w115 hw) (w178 hw) (rmL27_10_2 E.l Z a0 hw h805 n0 z814) (by decide) pd3 rfl rfl rfl (nb rfl) (nb rfl) (nb rfl) (nb rfl) d26_32 rfl ?_
    rintro _ T815 h815 ⟨rfl, q815⟩ W815
    replace W815 := W815.sub q815
    show Go E _ (Fm E T815 35 #[.val (.ref y), .val (.int (2 : Int32)), .val (.ref mr), .val (.ref b805)] [(.int (2 : Int32)), (.int (0 : Int32)), (.ref b805), (.int (0 : Int32)), (.ref y)])
    refine go_acopyF (pc' := 38) (o := 0) (q := 0) (r := 2) W815 (w179 hw) (w182 hw) (w180 hw) (w181 hw) f809 A805 (by decide) (by decide) (by decide) (by decide) (by decide) (by decide) (by decide) (by decide) (fun i hi => by match i, hi with | 0, _ => exact rfl | 1, _ => exact rfl) (fun _ i hi => by match i, hi with | 0, _ => exact own_sto (a0 := a0) A805 X805 (w118 hw) f811 | 1, _ => exact own_sto (a0 := a0) A805 X805 (w118 hw) f812) ge807 d26_35 rfl (nb rfl) (nb rfl) rfl ?_
    intro T816 h816 W816 K816 A816
    have f817 := f810.keep K816
    have f818 := X805.keep K816
    have k819 := k813.trans K816 (allS (Or.inr old808) all0)
    have z820 := Nat.le_trans z814 K816.1
    have f821 := f809.keep K816 (ninS ne806 nin0)
    have f822 := Ins.keepK f811 K816
    have f823 := Ins.keepK f812 K816
    have f824 : Af Z h816 b805 (.object OB) 2 (fun j => if j = 0 then (.ref d) else (.ref e)) := A816.congr (fun j hj => by match j, hj with | 0, _ => rfl | 1, _ => rfl)
    refine go_aloadN (pc' := 39) W816 d26_38 rfl rfl rfl ?_
    exact go_retA W816 (t := (.array (.object "java/lang/Object"))) rfl rfl rfl rfl d26_39 (nb rfl) (nb rfl) (⟨b805, rfl, ge807, old808, k819, f824, f818⟩)
set_option maxRecDepth 65536 in
set_option maxHeartbeats 4000000 in
theorem rm25 (l : Launch) (Z : State) (a0 : Array Value) (hw : Hw a0 Z) (y : Addr) (mr d e : Addr) (h0 : Heap) (n0 : Nat) (Z0 : n0 ≤ h0.size) (Mr : Mm Z OA mr) (Ay : Af Z h0 y (.object OB) 10 (fun j => (if j = 1 then (.ref e) else (if j = 0 then (.ref d) else .null)))) (Ey : Exa Z h0 y OA) (Id : Ins Z h0 d OB true) (Ie : Ins Z h0 e OB true) :
    Ct l Z K25 #[(.ref y), (.int (2 : Int32))] h0 n0 (fun v h => ∃ r : Addr, v = some (.ref r) ∧ n0 ≤ r ∧ h0.size ≤ r ∧ Keep h0 h [] ∧ Af Z h r (.object OB) 2 (fun j => if j = 0 then (.ref d) else (.ref e)) ∧ Exa Z h r OA) := by
  refine Ct.of (Ls := #[.val (.ref y), .val (.int (2 : Int32))]) (plainFor_of_name (by first | decide +kernel | (simp [plainName, overriddenIn]; done))) (fun m => by first | rfl | (simp [entryFrame, mkF, argsToLocals, Value.category]; done)) ?_
  intro E T W
  refine go_aloadN (pc' := 1) W d25_0 rfl rfl rfl ?_
  refine go_iloadN (pc' := 2) W d25_1 rfl rfl ?_
  refine go_aloadN (pc' := 3) W d25_2 rfl rfl rfl ?_
  refine go_gcls (pc' := 6) W (w165 hw) (w166 hw) (w142 hw) (w168 hw) (w167 hw) (w169 hw) Ey Mr d25_3 rfl (nb rfl) (nb rfl) rfl ?_
  intro T825 W825
  refine go_callS (kc := K26) (argsL := [(.ref y), (.int (2 : Int32)), (.ref mr)]) (rest := []) (pc' := 9) W825 (w171 hw) (w172 hw) (w163 hw) (w173 hw) (rm26 E.l Z a0 hw y mr d e h0 n0 Z0 Mr Ay Ey Id Ie) (by decide) pd9 rfl rfl rfl (nb rfl) (nb rfl) (nb rfl) (nb rfl) d25_6 rfl ?_
  rintro _ T826 h826 ⟨r826, rfl, gr826, so826, K826, ar826, er826⟩ W826
  have ne827 : y ≠ r826 := Nat.ne_of_lt (Nat.lt_of_lt_of_le Ay.lt so826)
  have old828 : h0.size ≤ r826 := Nat.le_trans (Keep.refl h0 []).1 so826
  have f829 := Ey.keep K826
  have k830 := (Keep.refl h0 []).trans K826 all0
  have z831 := Nat.le_trans Z0 K826.1
  have f832 := Ay.keep K826 nin0
  have f833 := Ins.keepK Id K826
  have f834 := Ins.keepK Ie K826
  show Go E _ (Fm E T826 9 #[.val (.ref y), .val (.int (2 : Int32))] [(.ref r826)])
  exact go_retA W826 (t := (.array (.object "java/lang/Object"))) rfl rfl rfl rfl d25_9 (nb rfl) (nb rfl) (⟨r826, rfl, gr826, old828, k830, ar826, er826⟩)
set_option maxRecDepth 65536 in
set_option maxHeartbeats 4000000 in
theorem rm24 (l : Launch) (Z : State) (a0 : Array Value) (hw : Hw a0 Z) (a : Addr) (mc : Int32) (y mr d e : Addr) (h0 : Heap) (n0 : Nat) (Z0 : n0 ≤ h0.size) (Ea : Exa Z h0 a "java/util/ArrayList") (F0 : Fld Z h0 a "java/util/AbstractList" "modCount" "I" (.int mc)) (F1 : Fld Z h0 a "java/util/ArrayList" "elementData" "[Ljava/lang/Object;" (.ref y)) (F2 : Fld Z h0 a "java/util/ArrayList" "size" "I" (.int (2 : Int32))) (nay : a ≠ y) (Mr : Mm Z OA mr) (Ay : Af Z h0 y (.object OB) 10 (fun j => (if j = 1 then (.ref e) else (if j = 0 then (.ref d) else .null)))) (Ey : Exa Z h0 y OA) (Id : Ins Z h0 d OB true) (Ie : Ins Z h0 e OB true) :
    Ct l Z K24 #[(.ref a)] h0 n0 (fun v h => ∃ r : Addr, v = some (.ref r) ∧ n0 ≤ r ∧ h0.size ≤ r ∧ Keep h0 h [] ∧ Af Z h r (.object OB) 2 (fun j => if j = 0 then (.ref d) else (.ref e)) ∧ Exa Z h r OA) := by
  refine Ct.of (Ls := #[.val (.ref a)]) (plainFor_of_name (by first | decide +kernel | (simp [plainName, overriddenIn]; done))) (fun m => by first | rfl | (simp [entryFrame, mkF, argsToLocals, Value.category]; done)) ?_
  intro E T W
  refine go_aloadN (pc' := 1) W d24_0 rfl rfl rfl ?_
  refine go_getF (pc' := 4) W (host := "") (Or.inl (w24 hw)) Via.refl F1 d24_1 rfl ?_
  intro T835 W835
  refine go_aloadN (pc' := 5) W835 d24_4 rfl rfl rfl ?_
  refine go_getF (pc' := 8) W835 (host := "") (Or.inl (w96 hw)) Via.refl F2 d24_5 rfl ?_
  intro T836 W836
  refine go_callS (kc := K25) (argsL := [(.ref y), (.int (2 : Int32))]) (rest := []) (pc' := 11) W836 (w161 hw) (w162 hw) (w163 hw) (w164 hw) (rm25 E.l Z a0 hw y mr d e h0 n0 Z0 Mr Ay Ey Id Ie) (by decide) pd10 rfl rfl rfl (nb rfl) (nb rfl) (nb rfl) (nb rfl) d24_8 rfl ?_
  rintro _ T837 h837 ⟨r837, rfl, gr837, so837, K837, ar837, er837⟩ W837
  have ne838 : y ≠ r837 := Nat.ne_of_lt (Nat.lt_of_lt_of_le Ay.lt so837)
  have ne839 : a ≠ r837 := Nat.ne_of_lt (Nat.lt_of_lt_of_le Ea.lt so837)
  have old840 : h0.size ≤ r837 := Nat.le_trans (Keep.refl h0 []).1 so837
  have f841 := Ey.keep K837
  have f842 := Ea.keep K837
  have f843 := F0.keep K837 nin0
  have f844 := F1.keep K837 nin0
  have f845 := F2.keep K837 nin0
  have k846 := (Keep.refl h0 []).trans K837 all0
  have z847 := Nat.le_trans Z0 K837.1
  have f848 := Ay.keep K837 nin0
  have f849 := Ins.keepK Id K837
  have f850 := Ins.keepK Ie K837
  show Go E _ (Fm E T837 11 #[.val (.ref a)] [(.ref r837)])
  exact go_retA W837 (t := (.array (.object "java/lang/Object"))) rfl rfl rfl rfl d24_11 (nb rfl) (nb rfl) (⟨r837, rfl, gr837, old840, k846, ar837, er837⟩)
set_option maxRecDepth 65536 in
set_option maxHeartbeats 4000000 in
theorem rmEm_0 (l : Launch) (Z : State) (a0 : Array Value) (hw : Hw a0 Z) (a : Addr)  (h0 : Heap) (n0 : Nat) (Z0 : n0 ≤ h0.size) (Fz : Fld Z h0 a "java/util/ArrayList" "size" "I" (.int (0 : Int32))) :
    Ct l Z K23 #[(.ref a)] h0 n0 (fun v h => v = some (.int 1) ∧ h = h0) := by
  refine Ct.of (Ls := #[.val (.ref a)]) (plainFor_of_name (by first | decide +kernel | (simp [plainName, overriddenIn]; done))) (fun m => by first | rfl | (simp [entryFrame, mkF, argsToLocals, Value.category]; done)) ?_
  intro E T W
  refine go_aloadN (pc' := 1) W d23_0 rfl rfl rfl ?_
  refine go_getF (pc' := 4) W (host := "") (Or.inl (w96 hw)) Via.refl Fz d23_1 rfl ?_
  intro T851 W851
  refine go_if_ne (pt := 11) (pf := 7) W851 d23_4 (by decide) rfl rfl (fun c4_852 => ?_) (fun c4_852 => ?_)
  · exact absurd c4_852 (by decide)
  · -- pc 4 not taken
    refine go_iconst (pc' := 8) (z := 1) W851 d23_7 rfl rfl ?_
    refine go_goto (pc' := 12) W851 d23_8 (by decide) rfl ?_
    exact go_retI W851 (t := .boolean) rfl (by simp) rfl d23_12 (nb rfl) (nb rfl) (⟨rfl, rfl⟩)
set_option maxRecDepth 65536 in
set_option maxHeartbeats 4000000 in
theorem rmEm_2 (l : Launch) (Z : State) (a0 : Array Value) (hw : Hw a0 Z) (a : Addr)  (h0 : Heap) (n0 : Nat) (Z0 : n0 ≤ h0.size) (Fz : Fld Z h0 a "java/util/ArrayList" "size" "I" (.int (2 : Int32))) :
    Ct l Z K23 #[(.ref a)] h0 n0 (fun v h => v = some (.int 0) ∧ h = h0) := by
  refine Ct.of (Ls := #[.val (.ref a)]) (plainFor_of_name (by first | decide +kernel | (simp [plainName, overriddenIn]; done))) (fun m => by first | rfl | (simp [entryFrame, mkF, argsToLocals, Value.category]; done)) ?_
  intro E T W
  refine go_aloadN (pc' := 1) W d23_0 rfl rfl rfl ?_
  refine go_getF (pc' := 4) W (host := "") (Or.inl (w96 hw)) Via.refl Fz d23_1 rfl ?_
  intro T853 W853
  refine go_if_ne (pt := 11) (pf := 7) W853 d23_4 (by decide) rfl rfl (fun c4_854 => ?_) (fun c4_854 => ?_)
  · -- pc 4 taken
    refine go_iconst (pc' := 12) (z := 0) W853 d23_11 rfl rfl ?_
    exact go_retI W853 (t := .boolean) rfl (by simp) rfl d23_12 (nb rfl) (nb rfl) (⟨rfl, rfl⟩)
  · exact absurd c4_854 (by decide)
set_option maxRecDepth 65536 in
set_option maxHeartbeats 4000000 in
theorem rm28 (l : Launch) (Z : State) (a0 : Array Value) (hw : Hw a0 Z) (r : Addr) (d e : Addr) (h0 : Heap) (n0 : Nat) (Z0 : n0 ≤ h0.size) (Ar : Af Z h0 r (.object OB) 2 (fun j => if j = 0 then (.ref d) else (.ref e))) (Er : Exa Z h0 r OA) :
    Ct l Z K28 #[(.ref r)] h0 n0 (fun v h => ∃ t : Addr, v = some (.ref t) ∧ n0 ≤ t ∧ h0.size ≤ t ∧ Keep h0 h [] ∧ Exa Z h t "java/util/ImmutableCollections$List12" ∧ Fld Z h t "java/util/ImmutableCollections$List12" "e0" "Ljava/lang/Object;" (.ref d) ∧ Fld Z h t "java/util/ImmutableCollections$List12" "e1" "Ljava/lang/Object;" (.ref e)) := by
  refine Ct.of (Ls := #[.val (.ref r), .unset]) (plainFor_of_name (by first | decide +kernel | (simp [plainName, overriddenIn]; done))) (fun m => by first | rfl | (simp [entryFrame, mkF, argsToLocals, Value.category]; done)) ?_
  intro E T W
  refine go_aloadN (pc' := 1) W d28_0 rfl rfl rfl ?_
  refine go_lenF (pc' := 2) (z := (2 : Int32)) W Ar rfl d28_1 rfl ?_
  refine go_tswIn (pc' := 45) (o := 43) W d28_2 (by decide) (by decide) (by decide) (by decide) ?_
  refine go_new (pc' := 48) W (w186 hw) (w187 hw) (w188 hw) d28_45 (nb rfl) (nb rfl) rfl ?_
  intro T855 h855 b855 g855 W855 E855 A855 D855 M855
  have ne856 : r ≠ b855 := by rw [g855]; exact Nat.ne_of_lt Ar.lt
  have ge857 : n0 ≤ b855 := by rw [g855]; exact Z0
  have old858 : h0.size ≤ b855 := by rw [g855]; exact (Keep.refl h0 []).1
  have f859 := Ar.ext E855
  have f860 := Er.ext E855
  have k861 := (Keep.refl h0 []).ext E855
  have z862 := Nat.le_trans Z0 E855.1
  have f863 : Fld Z h855 b855 "java/util/ImmutableCollections$List12" "e0" "Ljava/lang/Object;" .null := D855 (Or.inr (w212 hw)) (ty := (.object "java/lang/Object")) (by decide)
  have f864 : Fld Z h855 b855 "java/util/ImmutableCollections$List12" "e1" "Ljava/lang/Object;" .null := D855 (Or.inr (w214 hw)) (ty := (.object "java/lang/Object")) (by decide)
  refine go_dup (pc' := 49) W855 d28_48 rfl rfl ?_
  refine go_aloadN (pc' := 50) W855 d28_49 rfl rfl rfl ?_
  refine go_iconst (pc' := 51) (z := 0) W855 d28_50 rfl rfl ?_
  refine go_aaloadF (pc' := 52) (i := 0) (v := (.ref d)) W855 f859 (by decide) (by decide) rfl d28_51 rfl ?_
  refine go_aloadN (pc' := 53) W855 d28_52 rfl rfl rfl ?_
  refine go_iconst (pc' := 54) (z := 1) W855 d28_53 rfl rfl ?_
  refine go_aaloadF (pc' := 55) (i := 1) (v := (.ref e)) W855 f859 (by decide) (by decide) rfl d28_54 rfl ?_
  refine go_callN (a := b855) (kc := K29) (argsL := [(.ref d), (.ref e)]) (rest := [(.ref b855)]) (pc' := 58) W855 (w189 hw) (w190 hw) (w188 hw) (w192 hw) (rm29 E.l Z a0 hw b855 d e  h855 n0 z862 A855 f863 f864 ge857 ) rfl rfl (by decide) pd11 rfl rfl rfl (nb rfl) (nb rfl) (nb rfl) (nb rfl) d28_55 rfl ?_
  rintro _ T865 h865 ⟨rfl, K865, g865_0, g865_1⟩ W865
  have f866 := f860.keep K865
  have f867 := A855.keep K865
  have k870 := k861.trans K865 (allS (Or.inr old858) all0)
  have z871 := Nat.le_trans z862 K865.1
  have f872 := f859.keep K865 (ninS ne856 nin0)
  show Go E _ (Fm E T865 58 #[.val (.ref r), .unset] [(.ref b855)])
  exact go_retA W865 (t := (.object "java/util/List")) rfl rfl rfl rfl d28_58 (nb rfl) (nb rfl) (⟨b855, rfl, ge857, old858, k870, f867, g865_0, g865_1⟩)
set_option maxRecDepth 65536 in
set_option maxHeartbeats 4000000 in
theorem rm33 (l : Launch) (Z : State) (a0 : Array Value) (hw : Hw a0 Z)  (el : Addr) (h0 : Heap) (n0 : Nat) (Z0 : n0 ≤ h0.size) (Sl : Sta Z h0 "java/util/ImmutableCollections" "EMPTY_LIST" "Ljava/util/ImmutableCollections$ListN;" (.ref el)) :
    Ct l Z K33 #[] h0 n0 (fun v h => v = some (.ref el) ∧ h = h0) := by
  refine Ct.of (Ls := #[]) (plainFor_of_name (by first | decide +kernel | (simp [plainName, overriddenIn]; done))) (fun m => by first | rfl | (simp [entryFrame, mkF, argsToLocals, Value.category]; done)) ?_
  intro E T W
  refine go_getS (pc' := 3) W (host := "") (Or.inl (w222 hw)) Via.refl Sl d33_0 rfl ?_
  intro T873 W873
  exact go_retA W873 (t := (.object "java/util/List")) rfl rfl rfl rfl d33_3 (nb rfl) (nb rfl) (⟨rfl, rfl⟩)
theorem own_ni12 {a0 : Array Value} {Z : State} (hw : Hw a0 Z) : ∃ t, NI Z "java/util/ImmutableCollections$List12" t := by
  obtain ⟨c, k, h1, h2, -, h4, -⟩ := Cond.instantiable_spec (w187 hw)
  exact ⟨c, h1, k, h2, by simp at h4; exact h4.1⟩
theorem own_nin {a0 : Array Value} {Z : State} (hw : Hw a0 Z) : ∃ t, NI Z "java/util/ImmutableCollections$ListN" t := by
  obtain ⟨c, r, m, h1, h2, h3, h4, mk, h5, h6⟩ := Cond.selects_spec (w288 hw)
  have h7 := findClass_of_methodNamed h3
  exact ⟨m.cls, h7, mk, h5, h6⟩
theorem own_nos {a0 : Array Value} {Z : State} (hw : Hw a0 Z) {K : String} (N : ∃ t, NI Z K t) (k1 : "java/lang/Object" ≠ K) (k2 : "java/util/AbstractCollection" ≠ K) (k3 : "java/util/AbstractList" ≠ K) (k4 : "java/util/ArrayList" ≠ K) : ∃ c t, Z.vm.findClass "java/util/ArrayList" = some c ∧ Z.vm.findClass K = some t ∧ Z.vm.assignable c t = false := by
  obtain ⟨t, N⟩ := N
  exact own_nsno (w139 hw) N (NS.step (w139 hw) (NS.step (w140 hw) (NS.step (w141 hw) (own_nsroot (w142 hw) N k1) k2) k3) k4) k4
set_option maxRecDepth 65536 in
set_option maxHeartbeats 4000000 in
theorem rmLC_2 (l : Launch) (Z : State) (a0 : Array Value) (hw : Hw a0 Z) (a : Addr) (mc : Int32) (y mr d e : Addr) (h0 : Heap) (n0 : Nat) (Z0 : n0 ≤ h0.size) (Ea : Exa Z h0 a "java/util/ArrayList") (F0 : Fld Z h0 a "java/util/AbstractList" "modCount" "I" (.int mc)) (F1 : Fld Z h0 a "java/util/ArrayList" "elementData" "[Ljava/lang/Object;" (.ref y)) (F2 : Fld Z h0 a "java/util/ArrayList" "size" "I" (.int (2 : Int32))) (nay : a ≠ y) (Mr : Mm Z OA mr) (Ay : Af Z h0 y (.object OB) 10 (fun j => (if j = 1 then (.ref e) else (if j = 0 then (.ref d) else .null)))) (Ey : Exa Z h0 y OA) (Id : Ins Z h0 d OB true) (Ie : Ins Z h0 e OB true) :
    Ct l Z K22 #[(.ref a)] h0 n0 (fun v h => ∃ t : Addr, v = some (.ref t) ∧ n0 ≤ t ∧ h0.size ≤ t ∧ Keep h0 h [] ∧ Exa Z h t "java/util/ImmutableCollections$List12" ∧ Fld Z h t "java/util/ImmutableCollections$List12" "e0" "Ljava/lang/Object;" (.ref d) ∧ Fld Z h t "java/util/ImmutableCollections$List12" "e1" "Ljava/lang/Object;" (.ref e)) := by
  refine Ct.of (Ls := #[.val (.ref a), .unset]) (plainFor_of_name (by first | decide +kernel | (simp [plainName, overriddenIn]; done))) (fun m => by first | rfl | (simp [entryFrame, mkF, argsToLocals, Value.category]; done)) ?_
  intro E T W
  refine go_aloadN (pc' := 1) W d22_0 rfl rfl rfl ?_
  refine go_instNo (pc' := 4) W (w138 hw) Ea (own_nos hw (own_ni12 hw) (by decide) (by decide) (by decide) (by decide)) d22_1 rfl ?_
  intro T874 W874
  refine go_if_ne (pt := 26) (pf := 7) W874 d22_4 (by decide) rfl rfl (fun c4_875 => ?_) (fun c4_875 => ?_)
  · exact absurd c4_875 (by decide)
  · -- pc 4 not taken
    refine go_aloadN (pc' := 8) W874 d22_7 rfl rfl rfl ?_
    refine go_instNo (pc' := 11) W874 (w143 hw) Ea (own_nos hw (own_nin hw) (by decide) (by decide) (by decide) (by decide)) d22_8 rfl ?_
    intro T876 W876
    refine go_if_eq (pt := 31) (pf := 14) W876 d22_11 (by decide) rfl rfl (fun c11_877 => ?_) (fun c11_877 => ?_)
    · -- pc 11 taken
      refine go_aloadN (pc' := 32) W876 d22_31 rfl rfl rfl ?_
      refine go_callF (kc := K23) (a := a) (argsL := []) (rest := []) (pc' := 37) W876 (w144 hw) (w145 hw) (w146 hw) (w147 hw) (w148 hw) (w149 hw) (w150 hw) (w151 hw) (w2 hw) (w152 hw) Ea (rmEm_2 E.l Z a0 hw a h0 n0 Z0 F2) (by decide) pd12 rfl rfl rfl (nb rfl) (nb rfl) (nb rfl) (nb rfl) d22_32 rfl ?_
      rintro _ T878 h878 ⟨rfl, q878⟩ W878
      replace W878 := W878.sub q878
      show Go E _ (Fm E T878 37 #[.val (.ref a), .unset] [(.int (0 : Int32))])
      refine go_if_eq (pt := 44) (pf := 40) W878 d22_37 (by decide) rfl rfl (fun c37_879 => ?_) (fun c37_879 => ?_)
      · -- pc 37 taken
        refine go_aloadN (pc' := 45) W878 d22_44 rfl rfl rfl ?_
        refine go_callF (kc := K24) (a := a) (argsL := []) (rest := []) (pc' := 50) W878 (w153 hw) (w154 hw) (w155 hw) (w156 hw) (w157 hw) (w158 hw) (w159 hw) (w151 hw) (w2 hw) (w160 hw) Ea (rm24 E.l Z a0 hw a mc y mr d e h0 n0 Z0 Ea F0 F1 F2 nay Mr Ay Ey Id Ie) (by decide) pd6 rfl rfl rfl (nb rfl) (nb rfl) (nb rfl) (nb rfl) d22_45 rfl ?_
        rintro _ T880 h880 ⟨r880, rfl, gr880, so880, K880, ar880, er880⟩ W880
        have ne881 : y ≠ r880 := Nat.ne_of_lt (Nat.lt_of_lt_of_le Ay.lt so880)
        have ne882 : a ≠ r880 := Nat.ne_of_lt (Nat.lt_of_lt_of_le Ea.lt so880)
        have old883 : h0.size ≤ r880 := Nat.le_trans (Keep.refl h0 []).1 so880
        have f884 := Ey.keep K880
        have f885 := Ea.keep K880
        have f886 := F0.keep K880 nin0
        have f887 := F1.keep K880 nin0
        have f888 := F2.keep K880 nin0
        have k889 := (Keep.refl h0 []).trans K880 all0
        have z890 := Nat.le_trans Z0 K880.1
        have f891 := Ay.keep K880 nin0
        have f892 := Ins.keepK Id K880
        have f893 := Ins.keepK Ie K880
        show Go E _ (Fm E T880 50 #[.val (.ref a), .unset] [(.ref r880)])
        refine go_callS (kc := K28) (argsL := [(.ref r880)]) (rest := []) (pc' := 53) W880 (w183 hw) (w184 hw) (w132 hw) (w185 hw) (rm28 E.l Z a0 hw r880 d e h880 n0 z890 ar880 er880) (by decide) pd13 rfl rfl rfl (nb rfl) (nb rfl) (nb rfl) (nb rfl) d22_50 rfl ?_
        rintro _ T894 h894 ⟨t894, rfl, gt894, so894, K894, et894, g894_0, g894_1⟩ W894
        have ne895 : y ≠ t894 := Nat.ne_of_lt (Nat.lt_of_lt_of_le f884.lt so894)
        have ne896 : a ≠ t894 := Nat.ne_of_lt (Nat.lt_of_lt_of_le f885.lt so894)
        have ne897 : r880 ≠ t894 := Nat.ne_of_lt (Nat.lt_of_lt_of_le ar880.lt so894)
        have old898 : h0.size ≤ t894 := Nat.le_trans k889.1 so894
        have f899 := f884.keep K894
        have f900 := f885.keep K894
        have f901 := f886.keep K894 nin0
        have f902 := f887.keep K894 nin0
        have f903 := f888.keep K894 nin0
        have f904 := er880.keep K894
        have k905 := k889.trans K894 all0
        have z906 := Nat.le_trans z890 K894.1
        have f907 := f891.keep K894 nin0
        have f908 := ar880.keep K894 nin0
        have f909 := Ins.keepK f892 K894
        have f910 := Ins.keepK f893 K894
        show Go E _ (Fm E T894 53 #[.val (.ref a), .unset] [(.ref t894)])
        exact go_retA W894 (t := (.object "java/util/List")) rfl rfl rfl rfl d22_53 (nb rfl) (nb rfl) (⟨t894, rfl, gt894, old898, k905, et894, g894_0, g894_1⟩)
      · exact absurd c37_879 (by decide)
    · exact absurd c11_877 (by decide)
set_option maxRecDepth 65536 in
set_option maxHeartbeats 4000000 in
theorem rmLC_0 (l : Launch) (Z : State) (a0 : Array Value) (hw : Hw a0 Z) (a : Addr) (mc : Int32) (de el : Addr) (h0 : Heap) (n0 : Nat) (Z0 : n0 ≤ h0.size) (Ea : Exa Z h0 a "java/util/ArrayList") (F0 : Fld Z h0 a "java/util/AbstractList" "modCount" "I" (.int mc)) (F1 : Fld Z h0 a "java/util/ArrayList" "elementData" "[Ljava/lang/Object;" (.ref de)) (F2 : Fld Z h0 a "java/util/ArrayList" "size" "I" (.int (0 : Int32))) (Sl : Sta Z h0 "java/util/ImmutableCollections" "EMPTY_LIST" "Ljava/util/ImmutableCollections$ListN;" (.ref el)) :
    Ct l Z K22 #[(.ref a)] h0 n0 (fun v h => v = some (.ref el) ∧ h = h0) := by
  refine Ct.of (Ls := #[.val (.ref a), .unset]) (plainFor_of_name (by first | decide +kernel | (simp [plainName, overriddenIn]; done))) (fun m => by first | rfl | (simp [entryFrame, mkF, argsToLocals, Value.category]; done)) ?_
  intro E T W
  refine go_aloadN (pc' := 1) W d22_0 rfl rfl rfl ?_
  refine go_instNo (pc' := 4) W (w138 hw) Ea (own_nos hw (own_ni12 hw) (by decide) (by decide) (by decide) (by decide)) d22_1 rfl ?_
  intro T911 W911
  refine go_if_ne (pt := 26) (pf := 7) W911 d22_4 (by decide) rfl rfl (fun c4_912 => ?_) (fun c4_912 => ?_)
  · exact absurd c4_912 (by decide)
  · -- pc 4 not taken
    refine go_aloadN (pc' := 8) W911 d22_7 rfl rfl rfl ?_
    refine go_instNo (pc' := 11) W911 (w143 hw) Ea (own_nos hw (own_nin hw) (by decide) (by decide) (by decide) (by decide)) d22_8 rfl ?_
    intro T913 W913
    refine go_if_eq (pt := 31) (pf := 14) W913 d22_11 (by decide) rfl rfl (fun c11_914 => ?_) (fun c11_914 => ?_)
    · -- pc 11 taken
      refine go_aloadN (pc' := 32) W913 d22_31 rfl rfl rfl ?_
      refine go_callF (kc := K23) (a := a) (argsL := []) (rest := []) (pc' := 37) W913 (w144 hw) (w145 hw) (w146 hw) (w147 hw) (w148 hw) (w149 hw) (w150 hw) (w151 hw) (w2 hw) (w152 hw) Ea (rmEm_0 E.l Z a0 hw a h0 n0 Z0 F2) (by decide) pd12 rfl rfl rfl (nb rfl) (nb rfl) (nb rfl) (nb rfl) d22_32 rfl ?_
      rintro _ T915 h915 ⟨rfl, q915⟩ W915
      replace W915 := W915.sub q915
      show Go E _ (Fm E T915 37 #[.val (.ref a), .unset] [(.int (1 : Int32))])
      refine go_if_eq (pt := 44) (pf := 40) W915 d22_37 (by decide) rfl rfl (fun c37_916 => ?_) (fun c37_916 => ?_)
      · exact absurd c37_916 (by decide)
      · -- pc 37 not taken
        refine go_callS (kc := K33) (argsL := []) (rest := []) (pc' := 43) W915 (w219 hw) (w220 hw) (w132 hw) (w221 hw) (rm33 E.l Z a0 hw el h0 n0 Z0 Sl) (by decide) pd14 rfl rfl rfl (nb rfl) (nb rfl) (nb rfl) (nb rfl) d22_40 rfl ?_
        rintro _ T917 h917 ⟨rfl, q917⟩ W917
        replace W917 := W917.sub q917
        show Go E _ (Fm E T917 43 #[.val (.ref a), .unset] [(.ref el)])
        exact go_retA W917 (t := (.object "java/util/List")) rfl rfl rfl rfl d22_43 (nb rfl) (nb rfl) (⟨rfl, rfl⟩)
    · exact absurd c11_914 (by decide)
set_option maxRecDepth 65536 in
set_option maxHeartbeats 4000000 in
theorem rmCO_2 (l : Launch) (Z : State) (a0 : Array Value) (hw : Hw a0 Z) (a : Addr) (mc : Int32) (y mr d e : Addr) (h0 : Heap) (n0 : Nat) (Z0 : n0 ≤ h0.size) (Ea : Exa Z h0 a "java/util/ArrayList") (F0 : Fld Z h0 a "java/util/AbstractList" "modCount" "I" (.int mc)) (F1 : Fld Z h0 a "java/util/ArrayList" "elementData" "[Ljava/lang/Object;" (.ref y)) (F2 : Fld Z h0 a "java/util/ArrayList" "size" "I" (.int (2 : Int32))) (nay : a ≠ y) (Mr : Mm Z OA mr) (Ay : Af Z h0 y (.object OB) 10 (fun j => (if j = 1 then (.ref e) else (if j = 0 then (.ref d) else .null)))) (Ey : Exa Z h0 y OA) (Id : Ins Z h0 d OB true) (Ie : Ins Z h0 e OB true) :
    Ct l Z K21 #[(.ref a)] h0 n0 (fun v h => ∃ t : Addr, v = some (.ref t) ∧ n0 ≤ t ∧ h0.size ≤ t ∧ Keep h0 h [] ∧ Exa Z h t "java/util/ImmutableCollections$List12" ∧ Fld Z h t "java/util/ImmutableCollections$List12" "e0" "Ljava/lang/Object;" (.ref d) ∧ Fld Z h t "java/util/ImmutableCollections$List12" "e1" "Ljava/lang/Object;" (.ref e)) := by
  refine Ct.of (Ls := #[.val (.ref a)]) (plainFor_of_name (by first | decide +kernel | (simp [plainName, overriddenIn]; done))) (fun m => by first | rfl | (simp [entryFrame, mkF, argsToLocals, Value.category]; done)) ?_
  intro E T W
  refine go_aloadN (pc' := 1) W d21_0 rfl rfl rfl ?_
  refine go_callS (kc := K22) (argsL := [(.ref a)]) (rest := []) (pc' := 4) W (w134 hw) (w135 hw) (w136 hw) (w137 hw) (rmLC_2 E.l Z a0 hw a mc y mr d e h0 n0 Z0 Ea F0 F1 F2 nay Mr Ay Ey Id Ie) (by decide) pd15 rfl rfl rfl (nb rfl) (nb rfl) (nb rfl) (nb rfl) d21_1 rfl ?_
  rintro _ T918 h918 ⟨t918, rfl, gt918, so918, K918, et918, g918_0, g918_1⟩ W918
  have ne919 : y ≠ t918 := Nat.ne_of_lt (Nat.lt_of_lt_of_le Ay.lt so918)
  have ne920 : a ≠ t918 := Nat.ne_of_lt (Nat.lt_of_lt_of_le Ea.lt so918)
  have old921 : h0.size ≤ t918 := Nat.le_trans (Keep.refl h0 []).1 so918
  have f922 := Ey.keep K918
  have f923 := Ea.keep K918
  have f924 := F0.keep K918 nin0
  have f925 := F1.keep K918 nin0
  have f926 := F2.keep K918 nin0
  have k927 := (Keep.refl h0 []).trans K918 all0
  have z928 := Nat.le_trans Z0 K918.1
  have f929 := Ay.keep K918 nin0
  have f930 := Ins.keepK Id K918
  have f931 := Ins.keepK Ie K918
  show Go E _ (Fm E T918 4 #[.val (.ref a)] [(.ref t918)])
  exact go_retA W918 (t := (.object "java/util/List")) rfl rfl rfl rfl d21_4 (nb rfl) (nb rfl) (⟨t918, rfl, gt918, old921, k927, et918, g918_0, g918_1⟩)
set_option maxRecDepth 65536 in
set_option maxHeartbeats 4000000 in
theorem rmCO_0 (l : Launch) (Z : State) (a0 : Array Value) (hw : Hw a0 Z) (a : Addr) (mc : Int32) (de el : Addr) (h0 : Heap) (n0 : Nat) (Z0 : n0 ≤ h0.size) (Ea : Exa Z h0 a "java/util/ArrayList") (F0 : Fld Z h0 a "java/util/AbstractList" "modCount" "I" (.int mc)) (F1 : Fld Z h0 a "java/util/ArrayList" "elementData" "[Ljava/lang/Object;" (.ref de)) (F2 : Fld Z h0 a "java/util/ArrayList" "size" "I" (.int (0 : Int32))) (Sl : Sta Z h0 "java/util/ImmutableCollections" "EMPTY_LIST" "Ljava/util/ImmutableCollections$ListN;" (.ref el)) :
    Ct l Z K21 #[(.ref a)] h0 n0 (fun v h => v = some (.ref el) ∧ h = h0) := by
  refine Ct.of (Ls := #[.val (.ref a)]) (plainFor_of_name (by first | decide +kernel | (simp [plainName, overriddenIn]; done))) (fun m => by first | rfl | (simp [entryFrame, mkF, argsToLocals, Value.category]; done)) ?_
  intro E T W
  refine go_aloadN (pc' := 1) W d21_0 rfl rfl rfl ?_
  refine go_callS (kc := K22) (argsL := [(.ref a)]) (rest := []) (pc' := 4) W (w134 hw) (w135 hw) (w136 hw) (w137 hw) (rmLC_0 E.l Z a0 hw a mc de el h0 n0 Z0 Ea F0 F1 F2 Sl) (by decide) pd15 rfl rfl rfl (nb rfl) (nb rfl) (nb rfl) (nb rfl) d21_1 rfl ?_
  rintro _ T932 h932 ⟨rfl, q932⟩ W932
  replace W932 := W932.sub q932
  show Go E _ (Fm E T932 4 #[.val (.ref a)] [(.ref el)])
  exact go_retA W932 (t := (.object "java/util/List")) rfl rfl rfl rfl d21_4 (nb rfl) (nb rfl) (⟨rfl, rfl⟩)
set_option maxRecDepth 65536 in
set_option maxHeartbeats 4000000 in
theorem rmEI_S (l : Launch) (Z : State) (a0 : Array Value) (hw : Hw a0 Z) (i : Addr) (l0 : Addr) (l1 : Addr) (l2 : Addr) (m0 m1 m2 : Int32) (y0 d0 e0 y1 d1 e1 de el mr : Addr) (h0 : Heap) (n0 : Nat) (Z0 : n0 ≤ h0.size) (Ea : Exa Z h0 i "com/example/slotwright/slotwright/EnrolmentInstance") (F0 : Fld Z h0 i "com/example/slotwright/slotwright/EnrolmentInstance" "events" "I" (.int (0 : Int32))) (F1 : Fld Z h0 i "com/example/slotwright/slotwright/EnrolmentInstance" "rooms" "Ljava/util/List;" .null) (F2 : Fld Z h0 i "com/example/slotwright/slotwright/EnrolmentInstance" "eventFeatures" "Ljava/util/List;" .null) (F3 : Fld Z h0 i "com/example/slotwright/slotwright/EnrolmentInstance" "attendance" "Ljava/util/List;" .null) (ga : n0 ≤ i) (El0 : Exa Z h0 l0 "java/util/ArrayList") (L0_0 : Fld Z h0 l0 "java/util/AbstractList" "modCount" "I" (.int m0)) (L0_1 : Fld Z h0 l0 "java/util/ArrayList" "elementData" "[Ljava/lang/Object;" (.ref y0)) (L0_2 : Fld Z h0 l0 "java/util/ArrayList" "size" "I" (.int (2 : Int32))) (nly0 : l0 ≠ y0) (Ay0 : Af Z h0 y0 (.object OB) 10 (fun j => (if j = 1 then (.ref e0) else (if j = 0 then (.ref d0) else .null)))) (Ey0 : Exa Z h0 y0 OA) (Id0 : Ins Z h0 d0 OB true) (Ie0 : Ins Z h0 e0 OB true) (nil0 : i ≠ l0) (niy0 : i ≠ y0) (El1 : Exa Z h0 l1 "java/util/ArrayList") (L1_0 : Fld Z h0 l1 "java/util/AbstractList" "modCount" "I" (.int m1)) (L1_1 : Fld Z h0 l1 "java/util/ArrayList" "elementData" "[Ljava/lang/Object;" (.ref y1)) (L1_2 : Fld Z h0 l1 "java/util/ArrayList" "size" "I" (.int (2 : Int32))) (nly1 : l1 ≠ y1) (Ay1 : Af Z h0 y1 (.object OB) 10 (fun j => (if j = 1 then (.ref e1) else (if j = 0 then (.ref d1) else .null)))) (Ey1 : Exa Z h0 y1 OA) (Id1 : Ins Z h0 d1 OB true) (Ie1 : Ins Z h0 e1 OB true) (nil1 : i ≠ l1) (niy1 : i ≠ y1) (El2 : Exa Z h0 l2 "java/util/ArrayList") (L2_0 : Fld Z h0 l2 "java/util/AbstractList" "modCount" "I" (.int m2)) (L2_1 : Fld Z h0 l2 "java/util/ArrayList" "elementData" "[Ljava/lang/Object;" (.ref de)) (L2_2 : Fld Z h0 l2 "java/util/ArrayList" "size" "I" (.int (0 : Int32))) (nil2 : i ≠ l2) (Mr : Mm Z OA mr) (Sl : Sta Z h0 "java/util/ImmutableCollections" "EMPTY_LIST" "Ljava/util/ImmutableCollections$ListN;" (.ref el)) :
    Ct l Z K20 #[(.ref i), (.int (2 : Int32)), (.ref l0), (.ref l1), (.ref l2)] h0 n0 (fun v h => ∃ t0 t1 : Addr, v = none ∧ h0.size ≤ t0 ∧ h0.size ≤ t1 ∧ Keep h0 h [i] ∧ Fld Z h i "com/example/slotwright/slotwright/EnrolmentInstance" "events" "I" (.int (2 : Int32)) ∧ Fld Z h i "com/example/slotwright/slotwright/EnrolmentInstance" "rooms" "Ljava/util/List;" (.ref t0) ∧ Fld Z h i "com/example/slotwright/slotwright/EnrolmentInstance" "eventFeatures" "Ljava/util/List;" (.ref t1) ∧ Fld Z h i "com/example/slotwright/slotwright/EnrolmentInstance" "attendance" "Ljava/util/List;" (.ref el) ∧ (Exa Z h t0 "java/util/ImmutableCollections$List12" ∧ Fld Z h t0 "java/util/ImmutableCollections$List12" "e0" "Ljava/lang/Object;" (.ref d0) ∧ Fld Z h t0 "java/util/ImmutableCollections$List12" "e1" "Ljava/lang/Object;" (.ref e0)) ∧ Exa Z h t1 "java/util/ImmutableCollections$List12" ∧ Fld Z h t1 "java/util/ImmutableCollections$List12" "e0" "Ljava/lang/Object;" (.ref d1) ∧ Fld Z h t1 "java/util/ImmutableCollections$List12" "e1" "Ljava/lang/Object;" (.ref e1)) := by
  refine Ct.of (Ls := #[.val (.ref i), .val (.int (2 : Int32)), .val (.ref l0), .val (.ref l1), .val (.ref l2)]) (plainFor_of_name (by first | decide +kernel | (simp [plainName, overriddenIn]; done))) (fun m => by first | rfl | (simp [entryFrame, mkF, argsToLocals, Value.category]; done)) ?_
  intro E T W
  refine go_aloadN (pc' := 1) W d20_0 rfl rfl rfl ?_
  refine go_initO (pc' := 4) W (w127 hw) (w19 hw) (w20 hw) d20_1 rfl (nb rfl) (nb rfl) rfl ?_
  intro T933 W933
  refine go_aloadN (pc' := 5) W933 d20_4 rfl rfl rfl ?_
  refine go_iloadN (pc' := 6) W933 d20_5 rfl rfl ?_
  refine go_putF (pc' := 9) W933 (host := "") (Or.inl (w128 hw)) Via.refl F0 Ea (Or.inr ⟨(w129 hw), rfl, rfl⟩) (w122 hw) (ty := .int) (by decide) rfl rfl ga d20_6 rfl ?_
  intro T934 h934 W934 R934
  have f935 := Ea.wr R934
  have f936 := F0.same R934
  have f937 := F1.other R934 (Or.inr (slot_ne (Or.inr (w216 hw)) (Or.inr (w129 hw)) (by decide) (t := (.object "java/util/List")) (t' := .int) (by decide) (by decide)))
  have f938 := F2.other R934 (Or.inr (slot_ne (Or.inr (w218 hw)) (Or.inr (w129 hw)) (by decide) (t := (.object "java/util/List")) (t' := .int) (by decide) (by decide)))
  have f939 := F3.other R934 (Or.inr (slot_ne (Or.inr (w224 hw)) (Or.inr (w129 hw)) (by decide) (t := (.object "java/util/List")) (t' := .int) (by decide) (by decide)))
  have f940 := Sl.wr R934
  have f941 := El0.wr R934
  have f942 := L0_0.other R934 (Or.inl (Ne.symm nil0))
  have f943 := L0_1.other R934 (Or.inl (Ne.symm nil0))
  have f944 := L0_2.other R934 (Or.inl (Ne.symm nil0))
  have f945 := Ay0.other R934 (Ne.symm niy0)
  have f946 := Ey0.wr R934
  have f949 := El1.wr R934
  have f950 := L1_0.other R934 (Or.inl (Ne.symm nil1))
  have f951 := L1_1.other R934 (Or.inl (Ne.symm nil1))
  have f952 := L1_2.other R934 (Or.inl (Ne.symm nil1))
  have f953 := Ay1.other R934 (Ne.symm niy1)
  have f954 := Ey1.wr R934
  have f957 := El2.wr R934
  have f958 := L2_0.other R934 (Or.inl (Ne.symm nil2))
  have f959 := L2_1.other R934 (Or.inl (Ne.symm nil2))
  have f960 := L2_2.other R934 (Or.inl (Ne.symm nil2))
  have k961 := (Keep.refl h0 [i]).wr R934 (Or.inl (by simp))
  have z962 := Nat.le_trans Z0 (Keep.of_wr R934).1
  have f963 := Id0.wr R934
  have f964 := Ie0.wr R934
  have f965 := Id1.wr R934
  have f966 := Ie1.wr R934
  refine go_aloadN (pc' := 10) W934 d20_9 rfl rfl rfl ?_
  refine go_aloadN (pc' := 11) W934 d20_10 rfl rfl rfl ?_
  refine go_callS (kc := K21) (argsL := [(.ref l0)]) (rest := [(.ref i)]) (pc' := 14) W934 (w130 hw) (w131 hw) (w132 hw) (w133 hw) (rmCO_2 E.l Z a0 hw l0 m0 y0 mr d0 e0 h934 n0 z962 f941 f942 f943 f944 nly0 Mr f945 f946 f963 f964) (by decide) pd15 rfl rfl rfl (nb rfl) (nb rfl) (nb rfl) (nb rfl) d20_11 rfl ?_
  rintro _ T967 h967 ⟨t967, rfl, gt967, so967, K967, et967, g967_0, g967_1⟩ W967
  have ne968 : i ≠ t967 := Nat.ne_of_lt (Nat.lt_of_lt_of_le f935.lt so967)
  have ne969 : l0 ≠ t967 := Nat.ne_of_lt (Nat.lt_of_lt_of_le f941.lt so967)
  have ne970 : y0 ≠ t967 := Nat.ne_of_lt (Nat.lt_of_lt_of_le f945.lt so967)
  have ne971 : l1 ≠ t967 := Nat.ne_of_lt (Nat.lt_of_lt_of_le f949.lt so967)
  have ne972 : y1 ≠ t967 := Nat.ne_of_lt (Nat.lt_of_lt_of_le f953.lt so967)
  have ne973 : l2 ≠ t967 := Nat.ne_of_lt (Nat.lt_of_lt_of_le f957.lt so967)
  have old974 : h0.size ≤ t967 := Nat.le_trans k961.1 so967
  have f975 := f935.keep K967
  have f976 := f936.keep K967 nin0
  have f977 := f937.keep K967 nin0
  have f978 := f938.keep K967 nin0
  have f979 := f939.keep K967 nin0
  have f980 := f941.keep K967
  have f981 := f942.keep K967 nin0
  have f982 := f943.keep K967 nin0
  have f983 := f944.keep K967 nin0
  have f984 := f946.keep K967
  have f985 := f949.keep K967
  have f986 := f950.keep K967 nin0
  have f987 := f951.keep K967 nin0
  have f988 := f952.keep K967 nin0
  have f989 := f954.keep K967
  have f990 := f957.keep K967
  have f991 := f958.keep K967 nin0
  have f992 := f959.keep K967 nin0
  have f993 := f960.keep K967 nin0
  have k994 := k961.trans K967 all0
  have z995 := Nat.le_trans z962 K967.1
  have f996 := f945.keep K967 nin0
  have f997 := f953.keep K967 nin0
  have f998 := Sta.keepN f940 K967 all0
  have f999 := Ins.keepK f963 K967
  have f1000 := Ins.keepK f964 K967
  have f1001 := Ins.keepK f965 K967
  have f1002 := Ins.keepK f966 K967
  show Go E _ (Fm E T967 14 #[.val (.ref i), .val (.int (2 : Int32)), .val (.ref l0), .val (.ref l1), .val (.ref l2)] [(.ref t967), (.ref i)])
  refine go_putF (pc' := 17) W967 (host := "") (Or.inl (w215 hw)) Via.refl f977 f975 (Or.inr ⟨(w216 hw), rfl, rfl⟩) (w122 hw) (ty := (.object "java/util/List")) (by decide) rfl rfl ga d20_14 rfl ?_
  intro T1003 h1003 W1003 R1003
  have f1004 := f975.wr R1003
  have f1005 := f976.other R1003 (Or.inr (slot_ne (Or.inr (w129 hw)) (Or.inr (w216 hw)) (by decide) (t := .int) (t' := (.object "java/util/List")) (by decide) (by decide)))
  have f1006 := f977.same R1003
  have f1007 := f978.other R1003 (Or.inr (slot_ne (Or.inr (w218 hw)) (Or.inr (w216 hw)) (by decide) (t := (.object "java/util/List")) (t' := (.object "java/util/List")) (by decide) (by decide)))
  have f1008 := f979.other R1003 (Or.inr (slot_ne (Or.inr (w224 hw)) (Or.inr (w216 hw)) (by decide) (t := (.object "java/util/List")) (t' := (.object "java/util/List")) (by decide) (by decide)))
  have f1009 := f980.wr R1003
  have f1010 := f981.other R1003 (Or.inl (Ne.symm nil0))
  have f1011 := f982.other R1003 (Or.inl (Ne.symm nil0))
  have f1012 := f983.other R1003 (Or.inl (Ne.symm nil0))
  have f1013 := f984.wr R1003
  have f1014 := f985.wr R1003
  have f1015 := f986.other R1003 (Or.inl (Ne.symm nil1))
  have f1016 := f987.other R1003 (Or.inl (Ne.symm nil1))
  have f1017 := f988.other R1003 (Or.inl (Ne.symm nil1))
  have f1018 := f989.wr R1003
  have f1019 := f990.wr R1003
  have f1020 := f991.other R1003 (Or.inl (Ne.symm nil2))
  have f1021 := f992.other R1003 (Or.inl (Ne.symm nil2))
  have f1022 := f993.other R1003 (Or.inl (Ne.symm nil2))
  have f1023 := f996.other R1003 (Ne.symm niy0)
  have f1024 := f997.other R1003 (Ne.symm niy1)
  have f1025 := f998.wr R1003
  have f1030 := et967.wr R1003
  have f1031 := g967_0.other R1003 (Or.inl (Ne.symm ne968))
  have f1032 := g967_1.other R1003 (Or.inl (Ne.symm ne968))
  have k1033 := k994.wr R1003 (Or.inl (by simp))
  have z1034 := Nat.le_trans z995 (Keep.of_wr R1003).1
  have f1035 := f999.wr R1003
  have f1036 := f1000.wr R1003
  have f1037 := f1001.wr R1003
  have f1038 := f1002.wr R1003
  refine go_aloadN (pc' := 18) W1003 d20_17 rfl rfl rfl ?_
  refine go_aloadN (pc' := 19) W1003 d20_18 rfl rfl rfl ?_
  refine go_callS (kc := K21) (argsL := [(.ref l1)]) (rest := [(.ref i)]) (pc' := 22) W1003 (w130 hw) (w131 hw) (w132 hw) (w133 hw) (rmCO_2 E.l Z a0 hw l1 m1 y1 mr d1 e1 h1003 n0 z1034 f1014 f1015 f1016 f1017 nly1 Mr f1024 f1018 f1037 f1038) (by decide) pd15 rfl rfl rfl (nb rfl) (nb rfl) (nb rfl) (nb rfl) d20_19 rfl ?_
  rintro _ T1039 h1039 ⟨t1039, rfl, gt1039, so1039, K1039, et1039, g1039_0, g1039_1⟩ W1039
  have ne1040 : i ≠ t1039 := Nat.ne_of_lt (Nat.lt_of_lt_of_le f1004.lt so1039)
  have ne1041 : l0 ≠ t1039 := Nat.ne_of_lt (Nat.lt_of_lt_of_le f1009.lt so1039)
  have ne1042 : y0 ≠ t1039 := Nat.ne_of_lt (Nat.lt_of_lt_of_le f1013.lt so1039)
  have ne1043 : l1 ≠ t1039 := Nat.ne_of_lt (Nat.lt_of_lt_of_le f1014.lt so1039)
  have ne1044 : y1 ≠ t1039 := Nat.ne_of_lt (Nat.lt_of_lt_of_le f1018.lt so1039)
  have ne1045 : l2 ≠ t1039 := Nat.ne_of_lt (Nat.lt_of_lt_of_le f1019.lt so1039)
  have ne1046 : t967 ≠ t1039 := Nat.ne_of_lt (Nat.lt_of_lt_of_le f1030.lt so1039)
  have old1047 : h0.size ≤ t1039 := Nat.le_trans k1033.1 so1039
  have f1048 := f1004.keep K1039
  have f1049 := f1005.keep K1039 nin0
  have f1050 := f1006.keep K1039 nin0
  have f1051 := f1007.keep K1039 nin0
  have f1052 := f1008.keep K1039 nin0
  have f1053 := f1009.keep K1039
  have f1054 := f1010.keep K1039 nin0
  have f1055 := f1011.keep K1039 nin0
  have f1056 := f1012.keep K1039 nin0
  have f1057 := f1013.keep K1039
  have f1058 := f1014.keep K1039
  have f1059 := f1015.keep K1039 nin0
  have f1060 := f1016.keep K1039 nin0
  have f1061 := f1017.keep K1039 nin0
  have f1062 := f1018.keep K1039
  have f1063 := f1019.keep K1039
  have f1064 := f1020.keep K1039 nin0
  have f1065 := f1021.keep K1039 nin0
  have f1066 := f1022.keep K1039 nin0
  have f1067 := f1030.keep K1039
  have f1068 := f1031.keep K1039 nin0
  have f1069 := f1032.keep K1039 nin0
  have k1070 := k1033.trans K1039 all0
  have z1071 := Nat.le_trans z1034 K1039.1
  have f1072 := f1023.keep K1039 nin0
  have f1073 := f1024.keep K1039 nin0
  have f1074 := Sta.keepN f1025 K1039 all0
  have f1075 := Ins.keepK f1035 K1039
  have f1076 := Ins.keepK f1036 K1039
  have f1077 := Ins.keepK f1037 K1039
  have f1078 := Ins.keepK f1038 K1039
  show Go E _ (Fm E T1039 22 #[.val (.ref i), .val (.int (2 : Int32)), .val (.ref l0), .val (.ref l1), .val (.ref l2)] [(.ref t1039), (.ref i)])
  refine go_putF (pc' := 25) W1039 (host := "") (Or.inl (w217 hw)) Via.refl f1051 f1048 (Or.inr ⟨(w218 hw), rfl, rfl⟩) (w122 hw) (ty := (.object "java/util/List")) (by decide) rfl rfl ga d20_22 rfl ?_
  intro T1079 h1079 W1079 R1079
  have f1080 := f1048.wr R1079
  have f1081 := f1049.other R1079 (Or.inr (slot_ne (Or.inr (w129 hw)) (Or.inr (w218 hw)) (by decide) (t := .int) (t' := (.object "java/util/List")) (by decide) (by decide)))
  have f1082 := f1050.other R1079 (Or.inr (slot_ne (Or.inr (w216 hw)) (Or.inr (w218 hw)) (by decide) (t := (.object "java/util/List")) (t' := (.object "java/util/List")) (by decide) (by decide)))
  have f1083 := f1051.same R1079
  have f1084 := f1052.other R1079 (Or.inr (slot_ne (Or.inr (w224 hw)) (Or.inr (w218 hw)) (by decide) (t := (.object "java/util/List")) (t' := (.object "java/util/List")) (by decide) (by decide)))
  have f1085 := f1053.wr R1079
  have f1086 := f1054.other R1079 (Or.inl (Ne.symm nil0))
  have f1087 := f1055.other R1079 (Or.inl (Ne.symm nil0))
  have f1088 := f1056.other R1079 (Or.inl (Ne.symm nil0))
  have f1089 := f1057.wr R1079
  have f1090 := f1058.wr R1079
  have f1091 := f1059.other R1079 (Or.inl (Ne.symm nil1))
  have f1092 := f1060.other R1079 (Or.inl (Ne.symm nil1))
  have f1093 := f1061.other R1079 (Or.inl (Ne.symm nil1))
  have f1094 := f1062.wr R1079
  have f1095 := f1063.wr R1079
  have f1096 := f1064.other R1079 (Or.inl (Ne.symm nil2))
  have f1097 := f1065.other R1079 (Or.inl (Ne.symm nil2))
  have f1098 := f1066.other R1079 (Or.inl (Ne.symm nil2))
  have f1099 := f1067.wr R1079
  have f1100 := f1068.other R1079 (Or.inl (Ne.symm ne968))
  have f1101 := f1069.other R1079 (Or.inl (Ne.symm ne968))
  have f1102 := f1072.other R1079 (Ne.symm niy0)
  have f1103 := f1073.other R1079 (Ne.symm niy1)
  have f1104 := f1074.wr R1079
  have f1109 := et1039.wr R1079
  have f1110 := g1039_0.other R1079 (Or.inl (Ne.symm ne1040))
  have f1111 := g1039_1.other R1079 (Or.inl (Ne.symm ne1040))
  have k1112 := k1070.wr R1079 (Or.inl (by simp))
  have z1113 := Nat.le_trans z1071 (Keep.of_wr R1079).1
  have f1114 := f1075.wr R1079
  have f1115 := f1076.wr R1079
  have f1116 := f1077.wr R1079
  have f1117 := f1078.wr R1079
  refine go_aloadN (pc' := 26) W1079 d20_25 rfl rfl rfl ?_
  refine go_aload (pc' := 28) W1079 d20_26 rfl rfl rfl ?_
  refine go_callS (kc := K21) (argsL := [(.ref l2)]) (rest := [(.ref i)]) (pc' := 31) W1079 (w130 hw) (w131 hw) (w132 hw) (w133 hw) (rmCO_0 E.l Z a0 hw l2 m2 de el h1079 n0 z1113 f1095 f1096 f1097 f1098 f1104) (by decide) pd15 rfl rfl rfl (nb rfl) (nb rfl) (nb rfl) (nb rfl) d20_28 rfl ?_
  rintro _ T1118 h1118 ⟨rfl, q1118⟩ W1118
  replace W1118 := W1118.sub q1118
  show Go E _ (Fm E T1118 31 #[.val (.ref i), .val (.int (2 : Int32)), .val (.ref l0), .val (.ref l1), .val (.ref l2)] [(.ref el), (.ref i)])
  refine go_putF (pc' := 34) W1118 (host := "") (Or.inl (w223 hw)) Via.refl f1084 f1080 (Or.inr ⟨(w224 hw), rfl, rfl⟩) (w122 hw) (ty := (.object "java/util/List")) (by decide) rfl rfl ga d20_31 rfl ?_
  intro T1119 h1119 W1119 R1119
  have f1120 := f1080.wr R1119
  have f1121 := f1081.other R1119 (Or.inr (slot_ne (Or.inr (w129 hw)) (Or.inr (w224 hw)) (by decide) (t := .int) (t' := (.object "java/util/List")) (by decide) (by decide)))
  have f1122 := f1082.other R1119 (Or.inr (slot_ne (Or.inr (w216 hw)) (Or.inr (w224 hw)) (by decide) (t := (.object "java/util/List")) (t' := (.object "java/util/List")) (by decide) (by decide)))
  have f1123 := f1083.other R1119 (Or.inr (slot_ne (Or.inr (w218 hw)) (Or.inr (w224 hw)) (by decide) (t := (.object "java/util/List")) (t' := (.object "java/util/List")) (by decide) (by decide)))
  have f1124 := f1084.same R1119
  have f1125 := f1085.wr R1119
  have f1126 := f1086.other R1119 (Or.inl (Ne.symm nil0))
  have f1127 := f1087.other R1119 (Or.inl (Ne.symm nil0))
  have f1128 := f1088.other R1119 (Or.inl (Ne.symm nil0))
  have f1129 := f1089.wr R1119
  have f1130 := f1090.wr R1119
  have f1131 := f1091.other R1119 (Or.inl (Ne.symm nil1))
  have f1132 := f1092.other R1119 (Or.inl (Ne.symm nil1))
  have f1133 := f1093.other R1119 (Or.inl (Ne.symm nil1))
  have f1134 := f1094.wr R1119
  have f1135 := f1095.wr R1119
  have f1136 := f1096.other R1119 (Or.inl (Ne.symm nil2))
  have f1137 := f1097.other R1119 (Or.inl (Ne.symm nil2))
  have f1138 := f1098.other R1119 (Or.inl (Ne.symm nil2))
  have f1139 := f1099.wr R1119
  have f1140 := f1100.other R1119 (Or.inl (Ne.symm ne968))
  have f1141 := f1101.other R1119 (Or.inl (Ne.symm ne968))
  have f1142 := f1102.other R1119 (Ne.symm niy0)
  have f1143 := f1103.other R1119 (Ne.symm niy1)
  have f1144 := f1104.wr R1119
  have f1145 := f1109.wr R1119
  have f1146 := f1110.other R1119 (Or.inl (Ne.symm ne1040))
  have f1147 := f1111.other R1119 (Or.inl (Ne.symm ne1040))
  have k1152 := k1112.wr R1119 (Or.inl (by simp))
  have z1153 := Nat.le_trans z1113 (Keep.of_wr R1119).1
  have f1154 := f1114.wr R1119
  have f1155 := f1115.wr R1119
  have f1156 := f1116.wr R1119
  have f1157 := f1117.wr R1119
  exact go_retV W1119 rfl d20_34 (nb rfl) (nb rfl) (⟨t967, t1039, rfl, old974, old1047, k1152, f1121, f1122, f1123, f1124, ⟨f1139, f1140, f1141⟩, f1145, f1146, f1147⟩)
set_option maxRecDepth 65536 in
set_option maxHeartbeats 4000000 in
theorem rmEI_N (l : Launch) (Z : State) (a0 : Array Value) (hw : Hw a0 Z) (i : Addr) (l0 : Addr) (l1 : Addr) (l2 : Addr) (m0 m1 m2 : Int32) (y0 d0 e0 de el mr : Addr) (h0 : Heap) (n0 : Nat) (Z0 : n0 ≤ h0.size) (Ea : Exa Z h0 i "com/example/slotwright/slotwright/EnrolmentInstance") (F0 : Fld Z h0 i "com/example/slotwright/slotwright/EnrolmentInstance" "events" "I" (.int (0 : Int32))) (F1 : Fld Z h0 i "com/example/slotwright/slotwright/EnrolmentInstance" "rooms" "Ljava/util/List;" .null) (F2 : Fld Z h0 i "com/example/slotwright/slotwright/EnrolmentInstance" "eventFeatures" "Ljava/util/List;" .null) (F3 : Fld Z h0 i "com/example/slotwright/slotwright/EnrolmentInstance" "attendance" "Ljava/util/List;" .null) (ga : n0 ≤ i) (El0 : Exa Z h0 l0 "java/util/ArrayList") (L0_0 : Fld Z h0 l0 "java/util/AbstractList" "modCount" "I" (.int m0)) (L0_1 : Fld Z h0 l0 "java/util/ArrayList" "elementData" "[Ljava/lang/Object;" (.ref y0)) (L0_2 : Fld Z h0 l0 "java/util/ArrayList" "size" "I" (.int (2 : Int32))) (nly0 : l0 ≠ y0) (Ay0 : Af Z h0 y0 (.object OB) 10 (fun j => (if j = 1 then (.ref e0) else (if j = 0 then (.ref d0) else .null)))) (Ey0 : Exa Z h0 y0 OA) (Id0 : Ins Z h0 d0 OB true) (Ie0 : Ins Z h0 e0 OB true) (nil0 : i ≠ l0) (niy0 : i ≠ y0) (El1 : Exa Z h0 l1 "java/util/ArrayList") (L1_0 : Fld Z h0 l1 "java/util/AbstractList" "modCount" "I" (.int m1)) (L1_1 : Fld Z h0 l1 "java/util/ArrayList" "elementData" "[Ljava/lang/Object;" (.ref de)) (L1_2 : Fld Z h0 l1 "java/util/ArrayList" "size" "I" (.int (0 : Int32))) (nil1 : i ≠ l1) (El2 : Exa Z h0 l2 "java/util/ArrayList") (L2_0 : Fld Z h0 l2 "java/util/AbstractList" "modCount" "I" (.int m2)) (L2_1 : Fld Z h0 l2 "java/util/ArrayList" "elementData" "[Ljava/lang/Object;" (.ref de)) (L2_2 : Fld Z h0 l2 "java/util/ArrayList" "size" "I" (.int (0 : Int32))) (nil2 : i ≠ l2) (Mr : Mm Z OA mr) (Sl : Sta Z h0 "java/util/ImmutableCollections" "EMPTY_LIST" "Ljava/util/ImmutableCollections$ListN;" (.ref el)) :
    Ct l Z K20 #[(.ref i), (.int (2 : Int32)), (.ref l0), (.ref l1), (.ref l2)] h0 n0 (fun v h => ∃ t0 : Addr, v = none ∧ h0.size ≤ t0 ∧ Keep h0 h [i] ∧ Fld Z h i "com/example/slotwright/slotwright/EnrolmentInstance" "events" "I" (.int (2 : Int32)) ∧ Fld Z h i "com/example/slotwright/slotwright/EnrolmentInstance" "rooms" "Ljava/util/List;" (.ref t0) ∧ Fld Z h i "com/example/slotwright/slotwright/EnrolmentInstance" "eventFeatures" "Ljava/util/List;" (.ref el) ∧ Fld Z h i "com/example/slotwright/slotwright/EnrolmentInstance" "attendance" "Ljava/util/List;" (.ref el) ∧ Exa Z h t0 "java/util/ImmutableCollections$List12" ∧ Fld Z h t0 "java/util/ImmutableCollections$List12" "e0" "Ljava/lang/Object;" (.ref d0) ∧ Fld Z h t0 "java/util/ImmutableCollections$List12" "e1" "Ljava/lang/Object;" (.ref e0)) := by
  refine Ct.of (Ls := #[.val (.ref i), .val (.int (2 : Int32)), .val (.ref l0), .val (.ref l1), .val (.ref l2)]) (plainFor_of_name (by first | decide +kernel | (simp [plainName, overriddenIn]; done))) (fun m => by first | rfl | (simp [entryFrame, mkF, argsToLocals, Value.category]; done)) ?_
  intro E T W
  refine go_aloadN (pc' := 1) W d20_0 rfl rfl rfl ?_
  refine go_initO (pc' := 4) W (w127 hw) (w19 hw) (w20 hw) d20_1 rfl (nb rfl) (nb rfl) rfl ?_
  intro T1158 W1158
  refine go_aloadN (pc' := 5) W1158 d20_4 rfl rfl rfl ?_
  refine go_iloadN (pc' := 6) W1158 d20_5 rfl rfl ?_
  refine go_putF (pc' := 9) W1158 (host := "") (Or.inl (w128 hw)) Via.refl F0 Ea (Or.inr ⟨(w129 hw), rfl, rfl⟩) (w122 hw) (ty := .int) (by decide) rfl rfl ga d20_6 rfl ?_
  intro T1159 h1159 W1159 R1159
  have f1160 := Ea.wr R1159
  have f1161 := F0.same R1159
  have f1162 := F1.other R1159 (Or.inr (slot_ne (Or.inr (w216 hw)) (Or.inr (w129 hw)) (by decide) (t := (.object "java/util/List")) (t' := .int) (by decide) (by decide)))
  have f1163 := F2.other R1159 (Or.inr (slot_ne (Or.inr (w218 hw)) (Or.inr (w129 hw)) (by decide) (t := (.object "java/util/List")) (t' := .int) (by decide) (by decide)))
  have f1164 := F3.other R1159 (Or.inr (slot_ne (Or.inr (w224 hw)) (Or.inr (w129 hw)) (by decide) (t := (.object "java/util/List")) (t' := .int) (by decide) (by decide)))
  have f1165 := Sl.wr R1159
  have f1166 := El0.wr R1159
  have f1167 := L0_0.other R1159 (Or.inl (Ne.symm nil0))
  have f1168 := L0_1.other R1159 (Or.inl (Ne.symm nil0))
  have f1169 := L0_2.other R1159 (Or.inl (Ne.symm nil0))
  have f1170 := Ay0.other R1159 (Ne.symm niy0)
  have f1171 := Ey0.wr R1159
  have f1174 := El1.wr R1159
  have f1175 := L1_0.other R1159 (Or.inl (Ne.symm nil1))
  have f1176 := L1_1.other R1159 (Or.inl (Ne.symm nil1))
  have f1177 := L1_2.other R1159 (Or.inl (Ne.symm nil1))
  have f1178 := El2.wr R1159
  have f1179 := L2_0.other R1159 (Or.inl (Ne.symm nil2))
  have f1180 := L2_1.other R1159 (Or.inl (Ne.symm nil2))
  have f1181 := L2_2.other R1159 (Or.inl (Ne.symm nil2))
  have k1182 := (Keep.refl h0 [i]).wr R1159 (Or.inl (by simp))
  have z1183 := Nat.le_trans Z0 (Keep.of_wr R1159).1
  have f1184 := Id0.wr R1159
  have f1185 := Ie0.wr R1159
  refine go_aloadN (pc' := 10) W1159 d20_9 rfl rfl rfl ?_
  refine go_aloadN (pc' := 11) W1159 d20_10 rfl rfl rfl ?_
  refine go_callS (kc := K21) (argsL := [(.ref l0)]) (rest := [(.ref i)]) (pc' := 14) W1159 (w130 hw) (w131 hw) (w132 hw) (w133 hw) (rmCO_2 E.l Z a0 hw l0 m0 y0 mr d0 e0 h1159 n0 z1183 f1166 f1167 f1168 f1169 nly0 Mr f1170 f1171 f1184 f1185) (by decide) pd15 rfl rfl rfl (nb rfl) (nb rfl) (nb rfl) (nb rfl) d20_11 rfl ?_
  rintro _ T1186 h1186 ⟨t1186, rfl, gt1186, so1186, K1186, et1186, g1186_0, g1186_1⟩ W1186
  have ne1187 : i ≠ t1186 := Nat.ne_of_lt (Nat.lt_of_lt_of_le f1160.lt so1186)
  have ne1188 : l0 ≠ t1186 := Nat.ne_of_lt (Nat.lt_of_lt_of_le f1166.lt so1186)
  have ne1189 : y0 ≠ t1186 := Nat.ne_of_lt (Nat.lt_of_lt_of_le f1170.lt so1186)
  have ne1190 : l1 ≠ t1186 := Nat.ne_of_lt (Nat.lt_of_lt_of_le f1174.lt so1186)
  have ne1191 : l2 ≠ t1186 := Nat.ne_of_lt (Nat.lt_of_lt_of_le f1178.lt so1186)
  have old1192 : h0.size ≤ t1186 := Nat.le_trans k1182.1 so1186
  have f1193 := f1160.keep K1186
  have f1194 := f1161.keep K1186 nin0
  have f1195 := f1162.keep K1186 nin0
  have f1196 := f1163.keep K1186 nin0
  have f1197 := f1164.keep K1186 nin0
  have f1198 := f1166.keep K1186
  have f1199 := f1167.keep K1186 nin0
  have f1200 := f1168.keep K1186 nin0
  have f1201 := f1169.keep K1186 nin0
  have f1202 := f1171.keep K1186
  have f1203 := f1174.keep K1186
  have f1204 := f1175.keep K1186 nin0
  have f1205 := f1176.keep K1186 nin0
  have f1206 := f1177.keep K1186 nin0
  have f1207 := f1178.keep K1186
  have f1208 := f1179.keep K1186 nin0
  have f1209 := f1180.keep K1186 nin0
  have f1210 := f1181.keep K1186 nin0
  have k1211 := k1182.trans K1186 all0
  have z1212 := Nat.le_trans z1183 K1186.1
  have f1213 := f1170.keep K1186 nin0
  have f1214 := Sta.keepN f1165 K1186 all0
  have f1215 := Ins.keepK f1184 K1186
  have f1216 := Ins.keepK f1185 K1186
  show Go E _ (Fm E T1186 14 #[.val (.ref i), .val (.int (2 : Int32)), .val (.ref l0), .val (.ref l1), .val (.ref l2)] [(.ref t1186), (.ref i)])
  refine go_putF (pc' := 17) W1186 (host := "") (Or.inl (w215 hw)) Via.refl f1195 f1193 (Or.inr ⟨(w216 hw), rfl, rfl⟩) (w122 hw) (ty := (.object "java/util/List")) (by decide) rfl rfl ga d20_14 rfl ?_
  intro T1217 h1217 W1217 R1217
  have f1218 := f1193.wr R1217
  have f1219 := f1194.other R1217 (Or.inr (slot_ne (Or.inr (w129 hw)) (Or.inr (w216 hw)) (by decide) (t := .int) (t' := (.object "java/util/List")) (by decide) (by decide)))
  have f1220 := f1195.same R1217
  have f1221 := f1196.other R1217 (Or.inr (slot_ne (Or.inr (w218 hw)) (Or.inr (w216 hw)) (by decide) (t := (.object "java/util/List")) (t' := (.object "java/util/List")) (by decide) (by decide)))
  have f1222 := f1197.other R1217 (Or.inr (slot_ne (Or.inr (w224 hw)) (Or.inr (w216 hw)) (by decide) (t := (.object "java/util/List")) (t' := (.object "java/util/List")) (by decide) (by decide)))
  have f1223 := f1198.wr R1217
  have f1224 := f1199.other R1217 (Or.inl (Ne.symm nil0))
  have f1225 := f1200.other R1217 (Or.inl (Ne.symm nil0))
  have f1226 := f1201.other R1217 (Or.inl (Ne.symm nil0))
  have f1227 := f1202.wr R1217
  have f1228 := f1203.wr R1217
  have f1229 := f1204.other R1217 (Or.inl (Ne.symm nil1))
  have f1230 := f1205.other R1217 (Or.inl (Ne.symm nil1))
  have f1231 := f1206.other R1217 (Or.inl (Ne.symm nil1))
  have f1232 := f1207.wr R1217
  have f1233 := f1208.other R1217 (Or.inl (Ne.symm nil2))
  have f1234 := f1209.other R1217 (Or.inl (Ne.symm nil2))
  have f1235 := f1210.other R1217 (Or.inl (Ne.symm nil2))
  have f1236 := f1213.other R1217 (Ne.symm niy0)
  have f1237 := f1214.wr R1217
  have f1240 := et1186.wr R1217
  have f1241 := g1186_0.other R1217 (Or.inl (Ne.symm ne1187))
  have f1242 := g1186_1.other R1217 (Or.inl (Ne.symm ne1187))
  have k1243 := k1211.wr R1217 (Or.inl (by simp))
  have z1244 := Nat.le_trans z1212 (Keep.of_wr R1217).1
  have f1245 := f1215.wr R1217
  have f1246 := f1216.wr R1217
  refine go_aloadN (pc' := 18) W1217 d20_17 rfl rfl rfl ?_
  refine go_aloadN (pc' := 19) W1217 d20_18 rfl rfl rfl ?_
  refine go_callS (kc := K21) (argsL := [(.ref l1)]) (rest := [(.ref i)]) (pc' := 22) W1217 (w130 hw) (w131 hw) (w132 hw) (w133 hw) (rmCO_0 E.l Z a0 hw l1 m1 de el h1217 n0 z1244 f1228 f1229 f1230 f1231 f1237) (by decide) pd15 rfl rfl rfl (nb rfl) (nb rfl) (nb rfl) (nb rfl) d20_19 rfl ?_
  rintro _ T1247 h1247 ⟨rfl, q1247⟩ W1247
  replace W1247 := W1247.sub q1247
  show Go E _ (Fm E T1247 22 #[.val (.ref i), .val (.int (2 : Int32)), .val (.ref l0), .val (.ref l1), .val (.ref l2)] [(.ref el), (.ref i)])
  refine go_putF (pc' := 25) W1247 (host := "") (Or.inl (w217 hw)) Via.refl f1221 f1218 (Or.inr ⟨(w218 hw), rfl, rfl⟩) (w122 hw) (ty := (.object "java/util/List")) (by decide) rfl rfl ga d20_22 rfl ?_
  intro T1248 h1248 W1248 R1248
  have f1249 := f1218.wr R1248
  have f1250 := f1219.other R1248 (Or.inr (slot_ne (Or.inr (w129 hw)) (Or.inr (w218 hw)) (by decide) (t := .int) (t' := (.object "java/util/List")) (by decide) (by decide)))
  have f1251 := f1220.other R1248 (Or.inr (slot_ne (Or.inr (w216 hw)) (Or.inr (w218 hw)) (by decide) (t := (.object "java/util/List")) (t' := (.object "java/util/List")) (by decide) (by decide)))
  have f1252 := f1221.same R1248
  have f1253 := f1222.other R1248 (Or.inr (slot_ne (Or.inr (w224 hw)) (Or.inr (w218 hw)) (by decide) (t := (.object "java/util/List")) (t' := (.object "java/util/List")) (by decide) (by decide)))
  have f1254 := f1223.wr R1248
  have f1255 := f1224.other R1248 (Or.inl (Ne.symm nil0))
  have f1256 := f1225.other R1248 (Or.inl (Ne.symm nil0))
  have f1257 := f1226.other R1248 (Or.inl (Ne.symm nil0))
  have f1258 := f1227.wr R1248
  have f1259 := f1228.wr R1248
  have f1260 := f1229.other R1248 (Or.inl (Ne.symm nil1))
  have f1261 := f1230.other R1248 (Or.inl (Ne.symm nil1))
  have f1262 := f1231.other R1248 (Or.inl (Ne.symm nil1))
  have f1263 := f1232.wr R1248
  have f1264 := f1233.other R1248 (Or.inl (Ne.symm nil2))
  have f1265 := f1234.other R1248 (Or.inl (Ne.symm nil2))
  have f1266 := f1235.other R1248 (Or.inl (Ne.symm nil2))
  have f1267 := f1236.other R1248 (Ne.symm niy0)
  have f1268 := f1237.wr R1248
  have f1269 := f1240.wr R1248
  have f1270 := f1241.other R1248 (Or.inl (Ne.symm ne1187))
  have f1271 := f1242.other R1248 (Or.inl (Ne.symm ne1187))
  have k1274 := k1243.wr R1248 (Or.inl (by simp))
  have z1275 := Nat.le_trans z1244 (Keep.of_wr R1248).1
  have f1276 := f1245.wr R1248
  have f1277 := f1246.wr R1248
  refine go_aloadN (pc' := 26) W1248 d20_25 rfl rfl rfl ?_
  refine go_aload (pc' := 28) W1248 d20_26 rfl rfl rfl ?_
  refine go_callS (kc := K21) (argsL := [(.ref l2)]) (rest := [(.ref i)]) (pc' := 31) W1248 (w130 hw) (w131 hw) (w132 hw) (w133 hw) (rmCO_0 E.l Z a0 hw l2 m2 de el h1248 n0 z1275 f1263 f1264 f1265 f1266 f1268) (by decide) pd15 rfl rfl rfl (nb rfl) (nb rfl) (nb rfl) (nb rfl) d20_28 rfl ?_
  rintro _ T1278 h1278 ⟨rfl, q1278⟩ W1278
  replace W1278 := W1278.sub q1278
  show Go E _ (Fm E T1278 31 #[.val (.ref i), .val (.int (2 : Int32)), .val (.ref l0), .val (.ref l1), .val (.ref l2)] [(.ref el), (.ref i)])
  refine go_putF (pc' := 34) W1278 (host := "") (Or.inl (w223 hw)) Via.refl f1253 f1249 (Or.inr ⟨(w224 hw), rfl, rfl⟩) (w122 hw) (ty := (.object "java/util/List")) (by decide) rfl rfl ga d20_31 rfl ?_
  intro T1279 h1279 W1279 R1279
  have f1280 := f1249.wr R1279
  have f1281 := f1250.other R1279 (Or.inr (slot_ne (Or.inr (w129 hw)) (Or.inr (w224 hw)) (by decide) (t := .int) (t' := (.object "java/util/List")) (by decide) (by decide)))
  have f1282 := f1251.other R1279 (Or.inr (slot_ne (Or.inr (w216 hw)) (Or.inr (w224 hw)) (by decide) (t := (.object "java/util/List")) (t' := (.object "java/util/List")) (by decide) (by decide)))
  have f1283 := f1252.other R1279 (Or.inr (slot_ne (Or.inr (w218 hw)) (Or.inr (w224 hw)) (by decide) (t := (.object "java/util/List")) (t' := (.object "java/util/List")) (by decide) (by decide)))
  have f1284 := f1253.same R1279
  have f1285 := f1254.wr R1279
  have f1286 := f1255.other R1279 (Or.inl (Ne.symm nil0))
  have f1287 := f1256.other R1279 (Or.inl (Ne.symm nil0))
  have f1288 := f1257.other R1279 (Or.inl (Ne.symm nil0))
  have f1289 := f1258.wr R1279
  have f1290 := f1259.wr R1279
  have f1291 := f1260.other R1279 (Or.inl (Ne.symm nil1))
  have f1292 := f1261.other R1279 (Or.inl (Ne.symm nil1))
  have f1293 := f1262.other R1279 (Or.inl (Ne.symm nil1))
  have f1294 := f1263.wr R1279
  have f1295 := f1264.other R1279 (Or.inl (Ne.symm nil2))
  have f1296 := f1265.other R1279 (Or.inl (Ne.symm nil2))
  have f1297 := f1266.other R1279 (Or.inl (Ne.symm nil2))
  have f1298 := f1267.other R1279 (Ne.symm niy0)
  have f1299 := f1268.wr R1279
  have f1300 := f1269.wr R1279
  have f1301 := f1270.other R1279 (Or.inl (Ne.symm ne1187))
  have f1302 := f1271.other R1279 (Or.inl (Ne.symm ne1187))
  have k1305 := k1274.wr R1279 (Or.inl (by simp))
  have z1306 := Nat.le_trans z1275 (Keep.of_wr R1279).1
  have f1307 := f1276.wr R1279
  have f1308 := f1277.wr R1279
  exact go_retV W1279 rfl d20_34 (nb rfl) (nb rfl) (⟨t1186, rfl, old1192, k1305, f1281, f1282, f1283, f1284, f1300, f1301, f1302⟩)
set_option maxRecDepth 65536 in
set_option maxHeartbeats 4000000 in
theorem rmGet_0 (l : Launch) (Z : State) (a0 : Array Value) (hw : Hw a0 Z) (t : Addr) (d : Addr) (h0 : Heap) (n0 : Nat) (Z0 : n0 ≤ h0.size) (Fd : Fld Z h0 t "java/util/ImmutableCollections$List12" "e0" "Ljava/lang/Object;" (.ref d)) :
    Ct l Z K35 #[(.ref t), (.int (0 : Int32))] h0 n0 (fun v h => v = some (.ref d) ∧ h = h0) := by
  refine Ct.of (Ls := #[.val (.ref t), .val (.int (0 : Int32))]) (plainFor_of_name (by first | decide +kernel | (simp [plainName, overriddenIn]; done))) (fun m => by first | rfl | (simp [entryFrame, mkF, argsToLocals, Value.category]; done)) ?_
  intro E T W
  refine go_iloadN (pc' := 1) W d35_0 rfl rfl ?_
  refine go_if_ne (pt := 9) (pf := 4) W d35_1 (by decide) rfl rfl (fun c1_1309 => ?_) (fun c1_1309 => ?_)
  · exact absurd c1_1309 (by decide)
  · -- pc 1 not taken
    refine go_aloadN (pc' := 5) W d35_4 rfl rfl rfl ?_
    refine go_getF (pc' := 8) W (host := "") (Or.inl (w211 hw)) Via.refl Fd d35_5 rfl ?_
    intro T1310 W1310
    exact go_retA W1310 (t := (.object "java/lang/Object")) rfl rfl rfl rfl d35_8 (nb rfl) (nb rfl) (⟨rfl, rfl⟩)
set_option maxRecDepth 65536 in
set_option maxHeartbeats 4000000 in
theorem rmGet_1 (l : Launch) (Z : State) (a0 : Array Value) (hw : Hw a0 Z) (t : Addr) (d xo : Addr) (h0 : Heap) (n0 : Nat) (Z0 : n0 ≤ h0.size) (Fd : Fld Z h0 t "java/util/ImmutableCollections$List12" "e1" "Ljava/lang/Object;" (.ref d)) (Sx : Sta Z h0 "java/util/ImmutableCollections" "EMPTY" "Ljava/lang/Object;" (.ref xo)) (nex : d ≠ xo) :
    Ct l Z K35 #[(.ref t), (.int (1 : Int32))] h0 n0 (fun v h => v = some (.ref d) ∧ h = h0) := by
  refine Ct.of (Ls := #[.val (.ref t), .val (.int (1 : Int32))]) (plainFor_of_name (by first | decide +kernel | (simp [plainName, overriddenIn]; done))) (fun m => by first | rfl | (simp [entryFrame, mkF, argsToLocals, Value.category]; done)) ?_
  intro E T W
  refine go_iloadN (pc' := 1) W d35_0 rfl rfl ?_
  refine go_if_ne (pt := 9) (pf := 4) W d35_1 (by decide) rfl rfl (fun c1_1311 => ?_) (fun c1_1311 => ?_)
  · -- pc 1 taken
    refine go_iloadN (pc' := 10) W d35_9 rfl rfl ?_
    refine go_iconst (pc' := 11) (z := 1) W d35_10 rfl rfl ?_
    refine go_icmp_ne (pt := 29) (pf := 14) W d35_11 (by decide) rfl rfl (fun c11_1312 => ?_) (fun c11_1312 => ?_)
    · exact absurd c11_1312 (by decide)
    · -- pc 11 not taken
      refine go_aloadN (pc' := 15) W d35_14 rfl rfl rfl ?_
      refine go_getF (pc' := 18) W (host := "") (Or.inl (w213 hw)) Via.refl Fd d35_15 rfl ?_
      intro T1313 W1313
      refine go_getS (pc' := 21) W1313 (Or.inr (w287 hw)) Via.refl Sx d35_18 rfl ?_
      intro T1314 W1314
      refine go_acmp_eq (pt := 29) (pf := 24) W1314 d35_21 rfl rfl (by decide) rfl rfl (fun c21_1315 => ?_) (fun c21_1315 => ?_)
      · exact absurd (Value.ref.inj c21_1315) nex
      · -- pc 21 not taken
        replace c21_1315 : ¬ d = xo := fun q => c21_1315 (congrArg Value.ref q)
        refine go_aloadN (pc' := 25) W1314 d35_24 rfl rfl rfl ?_
        refine go_getF (pc' := 28) W1314 (host := "") (Or.inl (w213 hw)) Via.refl Fd d35_25 rfl ?_
        intro T1316 W1316
        exact go_retA W1316 (t := (.object "java/lang/Object")) rfl rfl rfl rfl d35_28 (nb rfl) (nb rfl) (⟨rfl, rfl⟩)
  · exact absurd c1_1311 (by decide)
set_option maxRecDepth 65536 in
set_option maxHeartbeats 4000000 in
theorem rm36 (l : Launch) (Z : State) (a0 : Array Value) (hw : Hw a0 Z) (t : Addr)  (h0 : Heap) (n0 : Nat) (Z0 : n0 ≤ h0.size)  :
    Ct l Z K36 #[(.ref t)] h0 n0 (fun v h => v = some (.int 0) ∧ h = h0) := by
  refine Ct.of (Ls := #[.val (.ref t)]) (plainFor_of_name (by first | decide +kernel | (simp [plainName, overriddenIn]; done))) (fun m => by first | rfl | (simp [entryFrame, mkF, argsToLocals, Value.category]; done)) ?_
  intro E T W
  refine go_iconst (pc' := 1) (z := 0) W d36_0 rfl rfl ?_
  exact go_retI W (t := .boolean) rfl (by simp) rfl d36_1 (nb rfl) (nb rfl) (⟨rfl, rfl⟩)
set_option maxRecDepth 65536 in
set_option maxHeartbeats 4000000 in
theorem rm44 (l : Launch) (Z : State) (a0 : Array Value) (hw : Hw a0 Z) (t : Addr) (es : Addr) (h0 : Heap) (n0 : Nat) (Z0 : n0 ≤ h0.size) (Fs : Fld Z h0 t "java/util/ImmutableCollections$ListN" "elements" "[Ljava/lang/Object;" (.ref es)) (As : Af Z h0 es (.object OB) 0 (fun _ => .null)) :
    Ct l Z K44 #[(.ref t)] h0 n0 (fun v h => v = some (.int 1) ∧ h = h0) := by
  refine Ct.of (Ls := #[.val (.ref t)]) (plainFor_of_name (by first | decide +kernel | (simp [plainName, overriddenIn]; done))) (fun m => by first | rfl | (simp [entryFrame, mkF, argsToLocals, Value.category]; done)) ?_
  intro E T W
  refine go_aloadN (pc' := 1) W d44_0 rfl rfl rfl ?_
  refine go_getF (pc' := 4) W (host := "") (Or.inl (w295 hw)) Via.refl Fs d44_1 rfl ?_
  intro T1317 W1317
  refine go_lenF (pc' := 5) (z := (0 : Int32)) W1317 As rfl d44_4 rfl ?_
  refine go_if_ne (pt := 12) (pf := 8) W1317 d44_5 (by decide) rfl rfl (fun c5_1318 => ?_) (fun c5_1318 => ?_)
  · exact absurd c5_1318 (by decide)
  · -- pc 5 not taken
    refine go_iconst (pc' := 9) (z := 1) W1317 d44_8 rfl rfl ?_
    refine go_goto (pc' := 13) W1317 d44_9 (by decide) rfl ?_
    exact go_retI W1317 (t := .boolean) rfl (by simp) rfl d44_13 (nb rfl) (nb rfl) (⟨rfl, rfl⟩)
set_option maxRecDepth 65536 in
set_option maxHeartbeats 4000000 in
theorem rm38 (l : Launch) (Z : State) (a0 : Array Value) (hw : Hw a0 Z) (a : Addr) (b : Addr) (h0 : Heap) (n0 : Nat) (Z0 : n0 ≤ h0.size) (Fb : Fld Z h0 a "com/example/slotwright/slotwright/EnrolmentInstance$Room" "features" "Ljava/util/BitSet;" (.ref b)) :
    Ct l Z K38 #[(.ref a)] h0 n0 (fun v h => v = some (.ref b) ∧ h = h0) := by
  refine Ct.of (Ls := #[.val (.ref a)]) (plainFor_of_name (by first | decide +kernel | (simp [plainName, overriddenIn]; done))) (fun m => by first | rfl | (simp [entryFrame, mkF, argsToLocals, Value.category]; done)) ?_
  intro E T W
  refine go_aloadN (pc' := 1) W d38_0 rfl rfl rfl ?_
  refine go_getF (pc' := 4) W (host := "") (Or.inl (w87 hw)) Via.refl Fb d38_1 rfl ?_
  intro T1319 W1319
  exact go_retA W1319 (t := (.object "java/util/BitSet")) rfl rfl rfl rfl d38_4 (nb rfl) (nb rfl) (⟨rfl, rfl⟩)
set_option maxRecDepth 65536 in
set_option maxHeartbeats 4000000 in
theorem rm41 (l : Launch) (Z : State) (a0 : Array Value) (hw : Hw a0 Z) (a : Addr) (s : Int32) (h0 : Heap) (n0 : Nat) (Z0 : n0 ≤ h0.size) (Fb : Fld Z h0 a "com/example/slotwright/slotwright/EnrolmentInstance$Room" "size" "I" (.int s)) :
    Ct l Z K41 #[(.ref a)] h0 n0 (fun v h => v = some (.int s) ∧ h = h0) := by
  refine Ct.of (Ls := #[.val (.ref a)]) (plainFor_of_name (by first | decide +kernel | (simp [plainName, overriddenIn]; done))) (fun m => by first | rfl | (simp [entryFrame, mkF, argsToLocals, Value.category]; done)) ?_
  intro E T W
  refine go_aloadN (pc' := 1) W d41_0 rfl rfl rfl ?_
  refine go_getF (pc' := 4) W (host := "") (Or.inl (w85 hw)) Via.refl Fb d41_1 rfl ?_
  intro T1320 W1320
  exact go_retI W1320 (t := .int) rfl (by simp) rfl d41_4 (nb rfl) (nb rfl) (⟨rfl, rfl⟩)
def own_e (r : Int32) : Int32 := if r = 0 then 1 else 0
set_option maxRecDepth 65536 in
set_option maxHeartbeats 4000000 in
theorem rm43 (l : Launch) (Z : State) (a0 : Array Value) (hw : Hw a0 Z) (b : Addr) (r : Int32) (h0 : Heap) (n0 : Nat) (Z0 : n0 ≤ h0.size) (Fu : Fld Z h0 b "java/util/BitSet" "wordsInUse" "I" (.int r)) :
    Ct l Z K43 #[(.ref b)] h0 n0 (fun v h => v = some (.int (own_e r)) ∧ h = h0) := by
  refine Ct.of (Ls := #[.val (.ref b)]) (plainFor_of_name (by first | decide +kernel | (simp [plainName, overriddenIn]; done))) (fun m => by first | rfl | (simp [entryFrame, mkF, argsToLocals, Value.category]; done)) ?_
  intro E T W
  refine go_aloadN (pc' := 1) W d43_0 rfl rfl rfl ?_
  refine go_getF (pc' := 4) W (host := "") (Or.inl (w40 hw)) Via.refl Fu d43_1 rfl ?_
  intro T1321 W1321
  refine go_if_ne (pt := 11) (pf := 7) W1321 d43_4 (by decide) rfl rfl (fun c4_1322 => ?_) (fun c4_1322 => ?_)
  · -- pc 4 taken
    refine go_iconst (pc' := 12) (z := 0) W1321 d43_11 rfl rfl ?_
    exact go_retI W1321 (t := .boolean) rfl (by simp) rfl d43_12 (nb rfl) (nb rfl) (⟨by simp [own_e, c4_1322], rfl⟩)
  · -- pc 4 not taken
    refine go_iconst (pc' := 8) (z := 1) W1321 d43_7 rfl rfl ?_
    refine go_goto (pc' := 12) W1321 d43_8 (by decide) rfl ?_
    exact go_retI W1321 (t := .boolean) rfl (by simp) rfl d43_12 (nb rfl) (nb rfl) (⟨by simp [own_e, c4_1322], rfl⟩)
set_option maxRecDepth 65536 in
set_option maxHeartbeats 4000000 in
theorem rm37 (l : Launch) (Z : State) (a0 : Array Value) (hw : Hw a0 Z) (t : Addr) (b : Addr) (y x : Addr) (u : Nat) (p q : Int64) (h0 : Heap) (n0 : Nat) (Z0 : n0 ≤ h0.size) (Ea : Exa Z h0 t "java/util/BitSet") (F0 : Fld Z h0 t "java/util/BitSet" "words" "[J" (.ref y)) (F1 : Fld Z h0 t "java/util/BitSet" "wordsInUse" "I" (.int (0 : Int32))) (F2 : Fld Z h0 t "java/util/BitSet" "sizeIsSticky" "Z" (.int (0 : Int32))) (ga : n0 ≤ t) (gy : n0 ≤ y) (Ay : Af Z h0 y .long 1 (fun _ => (.long (0 : Int64)))) (Bb : own_B Z h0 b x u p q) (n1 : t ≠ b) (n2 : t ≠ x) (n3 : y ≠ b) (n4 : y ≠ x) (nty : t ≠ y) (Sa : Sta Z h0 "java/util/BitSet" "$assertionsDisabled" "Z" (.int 1)) :
    Ct l Z K37 #[(.ref t), (.ref b)] h0 n0 (fun v h => ∃ z : Addr, v = none ∧ n0 ≤ z ∧ (z = y ∨ h0.size ≤ z) ∧ Keep h0 h [t, y] ∧ own_B Z h t z u p q) := by
  refine Ct.of (Ls := #[.val (.ref t), .val (.ref b), .unset, .unset]) (plainFor_of_name (by first | decide +kernel | (simp [plainName, overriddenIn]; done))) (fun m => by first | rfl | (simp [entryFrame, mkF, argsToLocals, Value.category]; done)) ?_
  intro E T W
  obtain ⟨Eb, Fb0, Fb1, rb⟩ := Bb
  rcases rb with ⟨rfl, rfl, rfl, Ab⟩ | ⟨rfl, rfl, Ab⟩ | ⟨rfl, Ab⟩
  · -- u = 0
    refine go_aloadN (pc' := 1) W d37_0 rfl rfl rfl ?_
    refine go_aloadN (pc' := 2) W d37_1 rfl rfl rfl ?_
    refine go_acmp_ne (pt := 6) (pf := 5) W d37_2 rfl rfl (by decide) rfl rfl (fun c2_1323 => ?_) (fun c2_1323 => ?_)
    · -- pc 2 taken
      replace c2_1323 : ¬ t = b := fun q => c2_1323 (congrArg Value.ref q)
      refine go_aloadN (pc' := 7) W d37_6 rfl rfl rfl ?_
      refine go_getF (pc' := 10) W (host := "") (Or.inl (w40 hw)) Via.refl F1 d37_7 rfl ?_
      intro T1324 W1324
      refine go_aloadN (pc' := 11) W1324 d37_10 rfl rfl rfl ?_
      refine go_getF (pc' := 14) W1324 (host := "") (Or.inl (w40 hw)) Via.refl Fb1 d37_11 rfl ?_
      intro T1325 W1325
      refine go_callS (kc := K27) (argsL := [(.int (0 : Int32)), (.int (0 : Int32))]) (rest := []) (pc' := 17) W1325 (w257 hw) (w177 hw) (w115 hw) (w178 hw) (rmL27_0_0 E.l Z a0 hw h0 n0 Z0) (by decide) pd3 rfl rfl rfl (nb rfl) (nb rfl) (nb rfl) (nb rfl) d37_14 rfl ?_
      rintro _ T1326 h1326 ⟨rfl, q1326⟩ W1326
      replace W1326 := W1326.sub q1326
      show Go E _ (Fm E T1326 17 #[.val (.ref t), .val (.ref b), .unset, .unset] [(.int (0 : Int32))])
      refine go_istoreN (pc' := 18) (l' := #[.val (.ref t), .val (.ref b), .val (.int (0 : Int32)), .unset]) W1326 d37_17 rfl rfl ?_
      refine go_aloadN (pc' := 19) W1326 d37_18 rfl rfl rfl ?_
      refine go_getF (pc' := 22) W1326 (host := "") (Or.inl (w40 hw)) Via.refl F1 d37_19 rfl ?_
      intro T1327 W1327
      refine go_aloadN (pc' := 23) W1327 d37_22 rfl rfl rfl ?_
      refine go_getF (pc' := 26) W1327 (host := "") (Or.inl (w40 hw)) Via.refl Fb1 d37_23 rfl ?_
      intro T1328 W1328
      refine go_icmp_ge (pt := 45) (pf := 29) W1328 d37_26 (by decide) rfl rfl (fun c26_1329 => ?_) (fun c26_1329 => ?_)
      · -- pc 26 taken
        refine go_iconst (pc' := 46) (z := 0) W1328 d37_45 rfl rfl ?_
        refine go_istoreN (pc' := 47) (l' := #[.val (.ref t), .val (.ref b), .val (.int (0 : Int32)), .val (.int (0 : Int32))]) W1328 d37_46 rfl rfl ?_
        refine go_iloadN (pc' := 48) W1328 d37_47 rfl rfl ?_
        refine go_iloadN (pc' := 49) W1328 d37_48 rfl rfl ?_
        refine go_icmp_ge (pt := 73) (pf := 52) W1328 d37_49 (by decide) rfl rfl (fun c49_1330 => ?_) (fun c49_1330 => ?_)
        · -- pc 49 taken
          refine go_iloadN (pc' := 74) W1328 d37_73 rfl rfl ?_
          refine go_aloadN (pc' := 75) W1328 d37_74 rfl rfl rfl ?_
          refine go_getF (pc' := 78) W1328 (host := "") (Or.inl (w40 hw)) Via.refl Fb1 d37_75 rfl ?_
          intro T1331 W1331
          refine go_icmp_ge (pt := 100) (pf := 81) W1331 d37_78 (by decide) rfl rfl (fun c78_1332 => ?_) (fun c78_1332 => ?_)
          · -- pc 78 taken
            refine go_aloadN (pc' := 101) W1331 d37_100 rfl rfl rfl ?_
            refine go_callP (a := t) (kc := K12) (argsL := []) (rest := []) (pc' := 104) W1331 (w70 hw) (w71 hw) (w73 hw) (w72 hw) (w35 hw) (w74 hw) Ea (rm12 E.l Z a0 hw t h0 n0 Z0 Sa) (by decide) pd0 rfl rfl rfl (nb rfl) (nb rfl) (nb rfl) (nb rfl) d37_101 rfl ?_
            rintro _ T1333 h1333 ⟨rfl, q1333⟩ W1333
            replace W1333 := W1333.sub q1333
            show Go E _ (Fm E T1333 104 #[.val (.ref t), .val (.ref b), .val (.int (0 : Int32)), .val (.int (0 : Int32))] [])
            exact go_retV W1333 rfl d37_104 (nb rfl) (nb rfl) (⟨y, rfl, gy, Or.inl rfl, (Keep.refl h0 [t, y]), ⟨Ea, F0, F1, Or.inl ⟨rfl, rfl, rfl, Ay⟩⟩⟩)
          · exact absurd c78_1332 (by decide)
        · exact absurd c49_1330 (by decide)
      · exact absurd c26_1329 (by decide)
    · exact absurd (Value.ref.inj c2_1323) n1
  · -- u = 1
    refine go_aloadN (pc' := 1) W d37_0 rfl rfl rfl ?_
    refine go_aloadN (pc' := 2) W d37_1 rfl rfl rfl ?_
    refine go_acmp_ne (pt := 6) (pf := 5) W d37_2 rfl rfl (by decide) rfl rfl (fun c2_1334 => ?_) (fun c2_1334 => ?_)
    · -- pc 2 taken
      replace c2_1334 : ¬ t = b := fun q => c2_1334 (congrArg Value.ref q)
      refine go_aloadN (pc' := 7) W d37_6 rfl rfl rfl ?_
      refine go_getF (pc' := 10) W (host := "") (Or.inl (w40 hw)) Via.refl F1 d37_7 rfl ?_
      intro T1335 W1335
      refine go_aloadN (pc' := 11) W1335 d37_10 rfl rfl rfl ?_
      refine go_getF (pc' := 14) W1335 (host := "") (Or.inl (w40 hw)) Via.refl Fb1 d37_11 rfl ?_
      intro T1336 W1336
      refine go_callS (kc := K27) (argsL := [(.int (0 : Int32)), (.int (1 : Int32))]) (rest := []) (pc' := 17) W1336 (w257 hw) (w177 hw) (w115 hw) (w178 hw) (rmL27_0_1 E.l Z a0 hw h0 n0 Z0) (by decide) pd3 rfl rfl rfl (nb rfl) (nb rfl) (nb rfl) (nb rfl) d37_14 rfl ?_
      rintro _ T1337 h1337 ⟨rfl, q1337⟩ W1337
      replace W1337 := W1337.sub q1337
      show Go E _ (Fm E T1337 17 #[.val (.ref t), .val (.ref b), .unset, .unset] [(.int (0 : Int32))])
      refine go_istoreN (pc' := 18) (l' := #[.val (.ref t), .val (.ref b), .val (.int (0 : Int32)), .unset]) W1337 d37_17 rfl rfl ?_
      refine go_aloadN (pc' := 19) W1337 d37_18 rfl rfl rfl ?_
      refine go_getF (pc' := 22) W1337 (host := "") (Or.inl (w40 hw)) Via.refl F1 d37_19 rfl ?_
      intro T1338 W1338
      refine go_aloadN (pc' := 23) W1338 d37_22 rfl rfl rfl ?_
      refine go_getF (pc' := 26) W1338 (host := "") (Or.inl (w40 hw)) Via.refl Fb1 d37_23 rfl ?_
      intro T1339 W1339
      refine go_icmp_ge (pt := 45) (pf := 29) W1339 d37_26 (by decide) rfl rfl (fun c26_1340 => ?_) (fun c26_1340 => ?_)
      · exact absurd c26_1340 (by decide)
      · -- pc 26 not taken
        refine go_aloadN (pc' := 30) W1339 d37_29 rfl rfl rfl ?_
        refine go_aloadN (pc' := 31) W1339 d37_30 rfl rfl rfl ?_
        refine go_getF (pc' := 34) W1339 (host := "") (Or.inl (w40 hw)) Via.refl Fb1 d37_31 rfl ?_
        intro T1341 W1341
        refine go_callP (a := t) (kc := K11) (argsL := [(.int (1 : Int32))]) (rest := []) (pc' := 37) W1341 (w65 hw) (w66 hw) (w68 hw) (w67 hw) (w35 hw) (w69 hw) Ea (rmE1_0 E.l Z a0 hw t y (0 : Int64) h0 n0 Z0 Ea F0 F1 F2 ga gy nty Ay) (by decide) pd2 rfl rfl rfl (nb rfl) (nb rfl) (nb rfl) (nb rfl) d37_34 rfl ?_
        rintro _ T1342 h1342 ⟨rfl, K1342, g1342_0, g1342_1, g1342_2, ay1342⟩ W1342
        have f1343 := Ea.keep K1342
        have f1347 := Eb.keep K1342
        have f1348 := Fb0.keep K1342 (ninS (Ne.symm n1) nin0)
        have f1349 := Fb1.keep K1342 (ninS (Ne.symm n1) nin0)
        have k1350 := (Keep.refl h0 [t, y]).trans K1342 (allS (Or.inl (by simp)) all0)
        have z1351 := Nat.le_trans Z0 K1342.1
        have f1352 := Ay.keep K1342 (ninS (Ne.symm nty) nin0)
        have f1353 := Ab.keep K1342 (ninS (Ne.symm n2) nin0)
        have f1354 := Sta.keepN Sa K1342 (allS (Ns.exa Ea) all0)
        show Go E _ (Fm E T1342 37 #[.val (.ref t), .val (.ref b), .val (.int (0 : Int32)), .unset] [])
        refine go_aloadN (pc' := 38) W1342 d37_37 rfl rfl rfl ?_
        refine go_aloadN (pc' := 39) W1342 d37_38 rfl rfl rfl ?_
        refine go_getF (pc' := 42) W1342 (host := "") (Or.inl (w40 hw)) Via.refl f1349 d37_39 rfl ?_
        intro T1355 W1355
        refine go_putF (pc' := 45) W1355 (host := "") (Or.inl (w40 hw)) Via.refl g1342_1 f1343 (Or.inl (w41 hw)) (w34 hw) (ty := .int) (by decide) rfl rfl ga d37_42 rfl ?_
        intro T1356 h1356 W1356 R1356
        have f1357 := f1343.wr R1356
        have f1358 := f1347.wr R1356
        have f1359 := f1348.other R1356 (Or.inl (Ne.symm n1))
        have f1360 := f1349.other R1356 (Or.inl (Ne.symm n1))
        have f1361 := ay1342.other R1356 (Ne.symm nty)
        have f1362 := f1353.other R1356 (Ne.symm n2)
        have f1363 := f1354.wr R1356
        have f1364 := g1342_0.other R1356 (Or.inr (slot_ne (Or.inl (w54 hw)) (Or.inl (w41 hw)) (by decide) (t := (.array .long)) (t' := .int) (by decide) (by decide)))
        have f1365 := g1342_1.same R1356
        have f1366 := g1342_2.other R1356 (Or.inr (slot_ne (Or.inl (w43 hw)) (Or.inl (w41 hw)) (by decide) (t := .boolean) (t' := .int) (by decide) (by decide)))
        have k1367 := k1350.wr R1356 (Or.inl (by simp))
        have z1368 := Nat.le_trans z1351 (Keep.of_wr R1356).1
        refine go_iconst (pc' := 46) (z := 0) W1356 d37_45 rfl rfl ?_
        refine go_istoreN (pc' := 47) (l' := #[.val (.ref t), .val (.ref b), .val (.int (0 : Int32)), .val (.int (0 : Int32))]) W1356 d37_46 rfl rfl ?_
        refine go_iloadN (pc' := 48) W1356 d37_47 rfl rfl ?_
        refine go_iloadN (pc' := 49) W1356 d37_48 rfl rfl ?_
        refine go_icmp_ge (pt := 73) (pf := 52) W1356 d37_49 (by decide) rfl rfl (fun c49_1369 => ?_) (fun c49_1369 => ?_)
        · -- pc 49 taken
          refine go_iloadN (pc' := 74) W1356 d37_73 rfl rfl ?_
          refine go_aloadN (pc' := 75) W1356 d37_74 rfl rfl rfl ?_
          refine go_getF (pc' := 78) W1356 (host := "") (Or.inl (w40 hw)) Via.refl f1360 d37_75 rfl ?_
          intro T1370 W1370
          refine go_icmp_ge (pt := 100) (pf := 81) W1370 d37_78 (by decide) rfl rfl (fun c78_1371 => ?_) (fun c78_1371 => ?_)
          · exact absurd c78_1371 (by decide)
          · -- pc 78 not taken
            refine go_aloadN (pc' := 82) W1370 d37_81 rfl rfl rfl ?_
            refine go_getF (pc' := 85) W1370 (host := "") (Or.inl (w53 hw)) Via.refl f1359 d37_82 rfl ?_
            intro T1372 W1372
            refine go_iloadN (pc' := 86) W1372 d37_85 rfl rfl ?_
            refine go_aloadN (pc' := 87) W1372 d37_86 rfl rfl rfl ?_
            refine go_getF (pc' := 90) W1372 (host := "") (Or.inl (w53 hw)) Via.refl f1364 d37_87 rfl ?_
            intro T1373 W1373
            refine go_iloadN (pc' := 91) W1373 d37_90 rfl rfl ?_
            refine go_aloadN (pc' := 92) W1373 d37_91 rfl rfl rfl ?_
            refine go_getF (pc' := 95) W1373 (host := "") (Or.inl (w40 hw)) Via.refl f1365 d37_92 rfl ?_
            intro T1374 W1374
            refine go_iloadN (pc' := 96) W1374 d37_95 rfl rfl ?_
            refine go_isubZ (pc' := 97) (z := 1) W1374 d37_96 (by decide) rfl ?_
            refine go_acopyF (pc' := 100) (o := 0) (q := 0) (r := 1) W1374 (w297 hw) (w182 hw) (w180 hw) (w181 hw) f1362 f1361 (by decide) (by decide) (by decide) (by decide) (by decide) (by decide) (by decide) (by decide) (fun i hi => by match i, hi with | 0, _ => exact rfl) (fun q => by cases q) gy d37_97 rfl (nb rfl) (nb rfl) rfl ?_
            intro T1375 h1375 W1375 K1375 A1375
            have f1376 := f1357.keep K1375
            have f1377 := f1358.keep K1375
            have f1378 := f1359.keep K1375 (ninS (Ne.symm n3) nin0)
            have f1379 := f1360.keep K1375 (ninS (Ne.symm n3) nin0)
            have f1380 := f1364.keep K1375 (ninS nty nin0)
            have f1381 := f1365.keep K1375 (ninS nty nin0)
            have f1382 := f1366.keep K1375 (ninS nty nin0)
            have k1383 := k1367.trans K1375 (allS (Or.inl (by simp)) all0)
            have z1384 := Nat.le_trans z1368 K1375.1
            have f1385 := f1362.keep K1375 (ninS (Ne.symm n4) nin0)
            have f1386 := Sta.keepN f1363 K1375 (allS (Ns.af f1361) all0)
            have f1387 : Af Z h1375 y .long 1 (fun _ => (.long p)) := A1375.congr (fun j hj => by match j, hj with | 0, _ => rfl)
            refine go_aloadN (pc' := 101) W1375 d37_100 rfl rfl rfl ?_
            refine go_callP (a := t) (kc := K12) (argsL := []) (rest := []) (pc' := 104) W1375 (w70 hw) (w71 hw) (w73 hw) (w72 hw) (w35 hw) (w74 hw) f1376 (rm12 E.l Z a0 hw t h1375 n0 z1384 f1386) (by decide) pd0 rfl rfl rfl (nb rfl) (nb rfl) (nb rfl) (nb rfl) d37_101 rfl ?_
            rintro _ T1388 h1388 ⟨rfl, q1388⟩ W1388
            replace W1388 := W1388.sub q1388
            show Go E _ (Fm E T1388 104 #[.val (.ref t), .val (.ref b), .val (.int (0 : Int32)), .val (.int (0 : Int32))] [])
            exact go_retV W1388 rfl d37_104 (nb rfl) (nb rfl) (⟨y, rfl, gy, Or.inl rfl, k1383, ⟨f1376, f1380, f1381, Or.inr (Or.inl ⟨rfl, rfl, f1387⟩)⟩⟩)
        · exact absurd c49_1369 (by decide)
    · exact absurd (Value.ref.inj c2_1334) n1
  · -- u = 2
    refine go_aloadN (pc' := 1) W d37_0 rfl rfl rfl ?_
    refine go_aloadN (pc' := 2) W d37_1 rfl rfl rfl ?_
    refine go_acmp_ne (pt := 6) (pf := 5) W d37_2 rfl rfl (by decide) rfl rfl (fun c2_1389 => ?_) (fun c2_1389 => ?_)
    · -- pc 2 taken
      replace c2_1389 : ¬ t = b := fun q => c2_1389 (congrArg Value.ref q)
      refine go_aloadN (pc' := 7) W d37_6 rfl rfl rfl ?_
      refine go_getF (pc' := 10) W (host := "") (Or.inl (w40 hw)) Via.refl F1 d37_7 rfl ?_
      intro T1390 W1390
      refine go_aloadN (pc' := 11) W1390 d37_10 rfl rfl rfl ?_
      refine go_getF (pc' := 14) W1390 (host := "") (Or.inl (w40 hw)) Via.refl Fb1 d37_11 rfl ?_
      intro T1391 W1391
      refine go_callS (kc := K27) (argsL := [(.int (0 : Int32)), (.int (2 : Int32))]) (rest := []) (pc' := 17) W1391 (w257 hw) (w177 hw) (w115 hw) (w178 hw) (rmL27_0_2 E.l Z a0 hw h0 n0 Z0) (by decide) pd3 rfl rfl rfl (nb rfl) (nb rfl) (nb rfl) (nb rfl) d37_14 rfl ?_
      rintro _ T1392 h1392 ⟨rfl, q1392⟩ W1392
      replace W1392 := W1392.sub q1392
      show Go E _ (Fm E T1392 17 #[.val (.ref t), .val (.ref b), .unset, .unset] [(.int (0 : Int32))])
      refine go_istoreN (pc' := 18) (l' := #[.val (.ref t), .val (.ref b), .val (.int (0 : Int32)), .unset]) W1392 d37_17 rfl rfl ?_
      refine go_aloadN (pc' := 19) W1392 d37_18 rfl rfl rfl ?_
      refine go_getF (pc' := 22) W1392 (host := "") (Or.inl (w40 hw)) Via.refl F1 d37_19 rfl ?_
      intro T1393 W1393
      refine go_aloadN (pc' := 23) W1393 d37_22 rfl rfl rfl ?_
      refine go_getF (pc' := 26) W1393 (host := "") (Or.inl (w40 hw)) Via.refl Fb1 d37_23 rfl ?_
      intro T1394 W1394
      refine go_icmp_ge (pt := 45) (pf := 29) W1394 d37_26 (by decide) rfl rfl (fun c26_1395 => ?_) (fun c26_1395 => ?_)
      · exact absurd c26_1395 (by decide)
      · -- pc 26 not taken
        refine go_aloadN (pc' := 30) W1394 d37_29 rfl rfl rfl ?_
        refine go_aloadN (pc' := 31) W1394 d37_30 rfl rfl rfl ?_
        refine go_getF (pc' := 34) W1394 (host := "") (Or.inl (w40 hw)) Via.refl Fb1 d37_31 rfl ?_
        intro T1396 W1396
        refine go_callP (a := t) (kc := K11) (argsL := [(.int (2 : Int32))]) (rest := []) (pc' := 37) W1396 (w65 hw) (w66 hw) (w68 hw) (w67 hw) (w35 hw) (w69 hw) Ea (rmE2_0 E.l Z a0 hw t y (0 : Int64) h0 n0 Z0 Ea F0 F1 F2 ga gy nty Ay) (by decide) pd2 rfl rfl rfl (nb rfl) (nb rfl) (nb rfl) (nb rfl) d37_34 rfl ?_
        rintro _ T1397 h1397 ⟨y1397, rfl, gy1397, so1397, K1397, g1397_0, g1397_1, g1397_2, ay1397⟩ W1397
        have ne1398 : t ≠ y1397 := Nat.ne_of_lt (Nat.lt_of_lt_of_le Ea.lt so1397)
        have ne1399 : y ≠ y1397 := Nat.ne_of_lt (Nat.lt_of_lt_of_le Ay.lt so1397)
        have ne1400 : b ≠ y1397 := Nat.ne_of_lt (Nat.lt_of_lt_of_le Eb.lt so1397)
        have ne1401 : x ≠ y1397 := Nat.ne_of_lt (Nat.lt_of_lt_of_le Ab.lt so1397)
        have old1402 : h0.size ≤ y1397 := Nat.le_trans (Keep.refl h0 [t, y]).1 so1397
        have f1403 := Ea.keep K1397
        have f1407 := Eb.keep K1397
        have f1408 := Fb0.keep K1397 (ninS (Ne.symm n1) nin0)
        have f1409 := Fb1.keep K1397 (ninS (Ne.symm n1) nin0)
        have k1410 := (Keep.refl h0 [t, y]).trans K1397 (allS (Or.inl (by simp)) all0)
        have z1411 := Nat.le_trans Z0 K1397.1
        have f1412 := Ay.keep K1397 (ninS (Ne.symm nty) nin0)
        have f1413 := Ab.keep K1397 (ninS (Ne.symm n2) nin0)
        have f1414 := Sta.keepN Sa K1397 (allS (Ns.exa Ea) all0)
        show Go E _ (Fm E T1397 37 #[.val (.ref t), .val (.ref b), .val (.int (0 : Int32)), .unset] [])
        refine go_aloadN (pc' := 38) W1397 d37_37 rfl rfl rfl ?_
        refine go_aloadN (pc' := 39) W1397 d37_38 rfl rfl rfl ?_
        refine go_getF (pc' := 42) W1397 (host := "") (Or.inl (w40 hw)) Via.refl f1409 d37_39 rfl ?_
        intro T1415 W1415
        refine go_putF (pc' := 45) W1415 (host := "") (Or.inl (w40 hw)) Via.refl g1397_1 f1403 (Or.inl (w41 hw)) (w34 hw) (ty := .int) (by decide) rfl rfl ga d37_42 rfl ?_
        intro T1416 h1416 W1416 R1416
        have f1417 := f1403.wr R1416
        have f1418 := f1407.wr R1416
        have f1419 := f1408.other R1416 (Or.inl (Ne.symm n1))
        have f1420 := f1409.other R1416 (Or.inl (Ne.symm n1))
        have f1421 := f1412.other R1416 (Ne.symm nty)
        have f1422 := f1413.other R1416 (Ne.symm n2)
        have f1423 := f1414.wr R1416
        have f1424 := g1397_0.other R1416 (Or.inr (slot_ne (Or.inl (w54 hw)) (Or.inl (w41 hw)) (by decide) (t := (.array .long)) (t' := .int) (by decide) (by decide)))
        have f1425 := g1397_1.same R1416
        have f1426 := g1397_2.other R1416 (Or.inr (slot_ne (Or.inl (w43 hw)) (Or.inl (w41 hw)) (by decide) (t := .boolean) (t' := .int) (by decide) (by decide)))
        have f1427 := ay1397.other R1416 (Ne.symm ne1398)
        have k1428 := k1410.wr R1416 (Or.inl (by simp))
        have z1429 := Nat.le_trans z1411 (Keep.of_wr R1416).1
        refine go_iconst (pc' := 46) (z := 0) W1416 d37_45 rfl rfl ?_
        refine go_istoreN (pc' := 47) (l' := #[.val (.ref t), .val (.ref b), .val (.int (0 : Int32)), .val (.int (0 : Int32))]) W1416 d37_46 rfl rfl ?_
        refine go_iloadN (pc' := 48) W1416 d37_47 rfl rfl ?_
        refine go_iloadN (pc' := 49) W1416 d37_48 rfl rfl ?_
        refine go_icmp_ge (pt := 73) (pf := 52) W1416 d37_49 (by decide) rfl rfl (fun c49_1430 => ?_) (fun c49_1430 => ?_)
        · -- pc 49 taken
          refine go_iloadN (pc' := 74) W1416 d37_73 rfl rfl ?_
          refine go_aloadN (pc' := 75) W1416 d37_74 rfl rfl rfl ?_
          refine go_getF (pc' := 78) W1416 (host := "") (Or.inl (w40 hw)) Via.refl f1420 d37_75 rfl ?_
          intro T1431 W1431
          refine go_icmp_ge (pt := 100) (pf := 81) W1431 d37_78 (by decide) rfl rfl (fun c78_1432 => ?_) (fun c78_1432 => ?_)
          · exact absurd c78_1432 (by decide)
          · -- pc 78 not taken
            refine go_aloadN (pc' := 82) W1431 d37_81 rfl rfl rfl ?_
            refine go_getF (pc' := 85) W1431 (host := "") (Or.inl (w53 hw)) Via.refl f1419 d37_82 rfl ?_
            intro T1433 W1433
            refine go_iloadN (pc' := 86) W1433 d37_85 rfl rfl ?_
            refine go_aloadN (pc' := 87) W1433 d37_86 rfl rfl rfl ?_
            refine go_getF (pc' := 90) W1433 (host := "") (Or.inl (w53 hw)) Via.refl f1424 d37_87 rfl ?_
            intro T1434 W1434
            refine go_iloadN (pc' := 91) W1434 d37_90 rfl rfl ?_
            refine go_aloadN (pc' := 92) W1434 d37_91 rfl rfl rfl ?_
            refine go_getF (pc' := 95) W1434 (host := "") (Or.inl (w40 hw)) Via.refl f1425 d37_92 rfl ?_
            intro T1435 W1435
            refine go_iloadN (pc' := 96) W1435 d37_95 rfl rfl ?_
            refine go_isubZ (pc' := 97) (z := 2) W1435 d37_96 (by decide) rfl ?_
            refine go_acopyF (pc' := 100) (o := 0) (q := 0) (r := 2) W1435 (w297 hw) (w182 hw) (w180 hw) (w181 hw) f1422 f1427 (by decide) (by decide) (by decide) (by decide) (by decide) (by decide) (by decide) (by decide) (fun i hi => by match i, hi with | 0, _ => exact rfl | 1, _ => exact rfl) (fun q => by cases q) gy1397 d37_97 rfl (nb rfl) (nb rfl) rfl ?_
            intro T1436 h1436 W1436 K1436 A1436
            have f1437 := f1417.keep K1436
            have f1438 := f1418.keep K1436
            have f1439 := f1419.keep K1436 (ninS ne1400 nin0)
            have f1440 := f1420.keep K1436 (ninS ne1400 nin0)
            have f1441 := f1424.keep K1436 (ninS ne1398 nin0)
            have f1442 := f1425.keep K1436 (ninS ne1398 nin0)
            have f1443 := f1426.keep K1436 (ninS ne1398 nin0)
            have k1444 := k1428.trans K1436 (allS (Or.inr old1402) all0)
            have z1445 := Nat.le_trans z1429 K1436.1
            have f1446 := f1421.keep K1436 (ninS ne1399 nin0)
            have f1447 := f1422.keep K1436 (ninS ne1401 nin0)
            have f1448 := Sta.keepN f1423 K1436 (allS (Ns.af f1427) all0)
            have f1449 : Af Z h1436 y1397 .long 2 (fun j => if j = 0 then (.long p) else (.long q)) := A1436.congr (fun j hj => by match j, hj with | 0, _ => rfl | 1, _ => rfl)
            refine go_aloadN (pc' := 101) W1436 d37_100 rfl rfl rfl ?_
            refine go_callP (a := t) (kc := K12) (argsL := []) (rest := []) (pc' := 104) W1436 (w70 hw) (w71 hw) (w73 hw) (w72 hw) (w35 hw) (w74 hw) f1437 (rm12 E.l Z a0 hw t h1436 n0 z1445 f1448) (by decide) pd0 rfl rfl rfl (nb rfl) (nb rfl) (nb rfl) (nb rfl) d37_101 rfl ?_
            rintro _ T1450 h1450 ⟨rfl, q1450⟩ W1450
            replace W1450 := W1450.sub q1450
            show Go E _ (Fm E T1450 104 #[.val (.ref t), .val (.ref b), .val (.int (0 : Int32)), .val (.int (0 : Int32))] [])
            exact go_retV W1450 rfl d37_104 (nb rfl) (nb rfl) (⟨y1397, rfl, gy1397, Or.inr old1402, k1444, ⟨f1437, f1441, f1442, Or.inr (Or.inr ⟨rfl, f1449⟩)⟩⟩)
        · exact absurd c49_1430 (by decide)
    · exact absurd (Value.ref.inj c2_1389) n1
theorem own_lw0 {x : Int64} (h : lcmpW x 0 = 0) : x = 0 := (lw_eq x 0).mp h
theorem own_lw1 {x : Int64} (h : ¬ lcmpW x 0 = 0) : ¬ x = 0 := fun q => h ((lw_eq x 0).mpr q)
theorem own_and1 (x : Int64) : x &&& ((0 : Int64) ^^^ -1) = x := by
  have : (0 : Int64) ^^^ -1 = -1 := by decide
  rw [this]; exact Int64.and_neg_one
theorem own_0and (x : Int64) : (0 : Int64) &&& x = 0 := Int64.zero_and
set_option maxRecDepth 65536 in
set_option maxHeartbeats 4000000 in
theorem rmRW_0 (l : Launch) (Z : State) (a0 : Array Value) (hw : Hw a0 Z) (t : Addr) (y : Addr) (p q : Int64) (h0 : Heap) (n0 : Nat) (Z0 : n0 ≤ h0.size) (Ea : Exa Z h0 t "java/util/BitSet") (F0 : Fld Z h0 t "java/util/BitSet" "words" "[J" (.ref y)) (F1 : Fld Z h0 t "java/util/BitSet" "wordsInUse" "I" (.int (0 : Int32))) (ga : n0 ≤ t) (nty : t ≠ y) (Ay : Af Z h0 y .long 1 (fun _ => (.long p))) :
    Ct l Z K40 #[(.ref t)] h0 n0 (fun v h => ∃ r : Int32, v = none ∧ Keep h0 h [t] ∧ Fld Z h t "java/util/BitSet" "words" "[J" (.ref y) ∧ Fld Z h t "java/util/BitSet" "wordsInUse" "I" (.int r) ∧ (r = 0 ↔ True)) := by
  refine Ct.of (Ls := #[.val (.ref t), .unset]) (plainFor_of_name (by first | decide +kernel | (simp [plainName, overriddenIn]; done))) (fun m => by first | rfl | (simp [entryFrame, mkF, argsToLocals, Value.category]; done)) ?_
  intro E T W
  refine go_aloadN (pc' := 1) W d40_0 rfl rfl rfl ?_
  refine go_getF (pc' := 4) W (host := "") (Or.inl (w40 hw)) Via.refl F1 d40_1 rfl ?_
  intro T1451 W1451
  refine go_iconst (pc' := 5) (z := 1) W1451 d40_4 rfl rfl ?_
  refine go_isubZ (pc' := 6) (z := (-1)) W1451 d40_5 (by decide) rfl ?_
  refine go_istoreN (pc' := 7) (l' := #[.val (.ref t), .val (.int (-1 : Int32))]) W1451 d40_6 rfl rfl ?_
  refine go_iloadN (pc' := 8) W1451 d40_7 rfl rfl ?_
  refine go_if_lt (pt := 31) (pf := 11) W1451 d40_8 (by decide) rfl rfl (fun c8_1452 => ?_) (fun c8_1452 => ?_)
  · -- pc 8 taken
    refine go_aloadN (pc' := 32) W1451 d40_31 rfl rfl rfl ?_
    refine go_iloadN (pc' := 33) W1451 d40_32 rfl rfl ?_
    refine go_iconst (pc' := 34) (z := 1) W1451 d40_33 rfl rfl ?_
    refine go_iaddZ (pc' := 35) (z := 0) W1451 d40_34 (by decide) rfl ?_
    refine go_putF (pc' := 38) W1451 (host := "") (Or.inl (w40 hw)) Via.refl F1 Ea (Or.inl (w41 hw)) (w34 hw) (ty := .int) (by decide) rfl rfl ga d40_35 rfl ?_
    intro T1453 h1453 W1453 R1453
    have f1454 := Ea.wr R1453
    have f1455 := F0.other R1453 (Or.inr (slot_ne (Or.inl (w54 hw)) (Or.inl (w41 hw)) (by decide) (t := (.array .long)) (t' := .int) (by decide) (by decide)))
    have f1456 := F1.same R1453
    have f1457 := Ay.other R1453 (Ne.symm nty)
    have k1458 := (Keep.refl h0 [t]).wr R1453 (Or.inl (by simp))
    have z1459 := Nat.le_trans Z0 (Keep.of_wr R1453).1
    exact go_retV W1453 rfl d40_38 (nb rfl) (nb rfl) (⟨(0 : Int32), rfl, k1458, f1455, f1456, by simp⟩)
  · exact absurd c8_1452 (by decide)
set_option maxRecDepth 65536 in
set_option maxHeartbeats 4000000 in
theorem rmRW_1 (l : Launch) (Z : State) (a0 : Array Value) (hw : Hw a0 Z) (t : Addr) (y : Addr) (p q : Int64) (h0 : Heap) (n0 : Nat) (Z0 : n0 ≤ h0.size) (Ea : Exa Z h0 t "java/util/BitSet") (F0 : Fld Z h0 t "java/util/BitSet" "words" "[J" (.ref y)) (F1 : Fld Z h0 t "java/util/BitSet" "wordsInUse" "I" (.int (1 : Int32))) (ga : n0 ≤ t) (nty : t ≠ y) (Ay : Af Z h0 y .long 1 (fun _ => (.long p))) :
    Ct l Z K40 #[(.ref t)] h0 n0 (fun v h => ∃ r : Int32, v = none ∧ Keep h0 h [t] ∧ Fld Z h t "java/util/BitSet" "words" "[J" (.ref y) ∧ Fld Z h t "java/util/BitSet" "wordsInUse" "I" (.int r) ∧ (r = 0 ↔ p = 0)) := by
  refine Ct.of (Ls := #[.val (.ref t), .unset]) (plainFor_of_name (by first | decide +kernel | (simp [plainName, overriddenIn]; done))) (fun m => by first | rfl | (simp [entryFrame, mkF, argsToLocals, Value.category]; done)) ?_
  intro E T W
  refine go_aloadN (pc' := 1) W d40_0 rfl rfl rfl ?_
  refine go_getF (pc' := 4) W (host := "") (Or.inl (w40 hw)) Via.refl F1 d40_1 rfl ?_
  intro T1460 W1460
  refine go_iconst (pc' := 5) (z := 1) W1460 d40_4 rfl rfl ?_
  refine go_isubZ (pc' := 6) (z := 0) W1460 d40_5 (by decide) rfl ?_
  refine go_istoreN (pc' := 7) (l' := #[.val (.ref t), .val (.int (0 : Int32))]) W1460 d40_6 rfl rfl ?_
  refine go_iloadN (pc' := 8) W1460 d40_7 rfl rfl ?_
  refine go_if_lt (pt := 31) (pf := 11) W1460 d40_8 (by decide) rfl rfl (fun c8_1461 => ?_) (fun c8_1461 => ?_)
  · exact absurd c8_1461 (by decide)
  · -- pc 8 not taken
    refine go_aloadN (pc' := 12) W1460 d40_11 rfl rfl rfl ?_
    refine go_getF (pc' := 15) W1460 (host := "") (Or.inl (w53 hw)) Via.refl F0 d40_12 rfl ?_
    intro T1462 W1462
    refine go_iloadN (pc' := 16) W1462 d40_15 rfl rfl ?_
    refine go_laloadF (pc' := 17) (i := 0) (v := (.long p)) W1462 Ay (by decide) (by decide) rfl d40_16 rfl ?_
    refine go_lconst (pc' := 18) (z := 0) W1462 d40_17 rfl rfl ?_
    refine go_lcmp (pc' := 19) W1462 d40_18 rfl ?_
    refine go_if_eq (pt := 25) (pf := 22) W1462 d40_19 (by decide) rfl rfl (fun c19_1463 => ?_) (fun c19_1463 => ?_)
    · -- pc 19 taken
      refine go_iinc (pc' := 28) (z := (-1 : Int32)) (l' := #[.val (.ref t), .val (.int (-1 : Int32))]) W1462 d40_25 rfl (by decide) rfl rfl ?_
      refine go_goto (pc' := 7) W1462 d40_28 (by decide) rfl ?_
      refine go_iloadN (pc' := 8) W1462 d40_7 rfl rfl ?_
      refine go_if_lt (pt := 31) (pf := 11) W1462 d40_8 (by decide) rfl rfl (fun c8_1464 => ?_) (fun c8_1464 => ?_)
      · -- pc 8 taken
        refine go_aloadN (pc' := 32) W1462 d40_31 rfl rfl rfl ?_
        refine go_iloadN (pc' := 33) W1462 d40_32 rfl rfl ?_
        refine go_iconst (pc' := 34) (z := 1) W1462 d40_33 rfl rfl ?_
        refine go_iaddZ (pc' := 35) (z := 0) W1462 d40_34 (by decide) rfl ?_
        refine go_putF (pc' := 38) W1462 (host := "") (Or.inl (w40 hw)) Via.refl F1 Ea (Or.inl (w41 hw)) (w34 hw) (ty := .int) (by decide) rfl rfl ga d40_35 rfl ?_
        intro T1465 h1465 W1465 R1465
        have f1466 := Ea.wr R1465
        have f1467 := F0.other R1465 (Or.inr (slot_ne (Or.inl (w54 hw)) (Or.inl (w41 hw)) (by decide) (t := (.array .long)) (t' := .int) (by decide) (by decide)))
        have f1468 := F1.same R1465
        have f1469 := Ay.other R1465 (Ne.symm nty)
        have k1470 := (Keep.refl h0 [t]).wr R1465 (Or.inl (by simp))
        have z1471 := Nat.le_trans Z0 (Keep.of_wr R1465).1
        exact go_retV W1465 rfl d40_38 (nb rfl) (nb rfl) (⟨(0 : Int32), rfl, k1470, f1467, f1468, by simp [own_lw0 c19_1463]⟩)
      · exact absurd c8_1464 (by decide)
    · -- pc 19 not taken
      refine go_goto (pc' := 31) W1462 d40_22 (by decide) rfl ?_
      refine go_aloadN (pc' := 32) W1462 d40_31 rfl rfl rfl ?_
      refine go_iloadN (pc' := 33) W1462 d40_32 rfl rfl ?_
      refine go_iconst (pc' := 34) (z := 1) W1462 d40_33 rfl rfl ?_
      refine go_iaddZ (pc' := 35) (z := 1) W1462 d40_34 (by decide) rfl ?_
      refine go_putF (pc' := 38) W1462 (host := "") (Or.inl (w40 hw)) Via.refl F1 Ea (Or.inl (w41 hw)) (w34 hw) (ty := .int) (by decide) rfl rfl ga d40_35 rfl ?_
      intro T1472 h1472 W1472 R1472
      have f1473 := Ea.wr R1472
      have f1474 := F0.other R1472 (Or.inr (slot_ne (Or.inl (w54 hw)) (Or.inl (w41 hw)) (by decide) (t := (.array .long)) (t' := .int) (by decide) (by decide)))
      have f1475 := F1.same R1472
      have f1476 := Ay.other R1472 (Ne.symm nty)
      have k1477 := (Keep.refl h0 [t]).wr R1472 (Or.inl (by simp))
      have z1478 := Nat.le_trans Z0 (Keep.of_wr R1472).1
      exact go_retV W1472 rfl d40_38 (nb rfl) (nb rfl) (⟨(1 : Int32), rfl, k1477, f1474, f1475, by simp [own_lw1 c19_1463]⟩)
set_option maxRecDepth 65536 in
set_option maxHeartbeats 4000000 in
theorem rmRW_2 (l : Launch) (Z : State) (a0 : Array Value) (hw : Hw a0 Z) (t : Addr) (y : Addr) (p q : Int64) (h0 : Heap) (n0 : Nat) (Z0 : n0 ≤ h0.size) (Ea : Exa Z h0 t "java/util/BitSet") (F0 : Fld Z h0 t "java/util/BitSet" "words" "[J" (.ref y)) (F1 : Fld Z h0 t "java/util/BitSet" "wordsInUse" "I" (.int (2 : Int32))) (ga : n0 ≤ t) (nty : t ≠ y) (Ay : Af Z h0 y .long 2 (fun j => if j = 0 then (.long p) else (.long q))) :
    Ct l Z K40 #[(.ref t)] h0 n0 (fun v h => ∃ r : Int32, v = none ∧ Keep h0 h [t] ∧ Fld Z h t "java/util/BitSet" "words" "[J" (.ref y) ∧ Fld Z h t "java/util/BitSet" "wordsInUse" "I" (.int r) ∧ (r = 0 ↔ (p = 0 ∧ q = 0))) := by
  refine Ct.of (Ls := #[.val (.ref t), .unset]) (plainFor_of_name (by first | decide +kernel | (simp [plainName, overriddenIn]; done))) (fun m => by first | rfl | (simp [entryFrame, mkF, argsToLocals, Value.category]; done)) ?_
  intro E T W
  refine go_aloadN (pc' := 1) W d40_0 rfl rfl rfl ?_
  refine go_getF (pc' := 4) W (host := "") (Or.inl (w40 hw)) Via.refl F1 d40_1 rfl ?_
  intro T1479 W1479
  refine go_iconst (pc' := 5) (z := 1) W1479 d40_4 rfl rfl ?_
  refine go_isubZ (pc' := 6) (z := 1) W1479 d40_5 (by decide) rfl ?_
  refine go_istoreN (pc' := 7) (l' := #[.val (.ref t), .val (.int (1 : Int32))]) W1479 d40_6 rfl rfl ?_
  refine go_iloadN (pc' := 8) W1479 d40_7 rfl rfl ?_
  refine go_if_lt (pt := 31) (pf := 11) W1479 d40_8 (by decide) rfl rfl (fun c8_1480 => ?_) (fun c8_1480 => ?_)
  · exact absurd c8_1480 (by decide)
  · -- pc 8 not taken
    refine go_aloadN (pc' := 12) W1479 d40_11 rfl rfl rfl ?_
    refine go_getF (pc' := 15) W1479 (host := "") (Or.inl (w53 hw)) Via.refl F0 d40_12 rfl ?_
    intro T1481 W1481
    refine go_iloadN (pc' := 16) W1481 d40_15 rfl rfl ?_
    refine go_laloadF (pc' := 17) (i := 1) (v := (.long q)) W1481 Ay (by decide) (by decide) rfl d40_16 rfl ?_
    refine go_lconst (pc' := 18) (z := 0) W1481 d40_17 rfl rfl ?_
    refine go_lcmp (pc' := 19) W1481 d40_18 rfl ?_
    refine go_if_eq (pt := 25) (pf := 22) W1481 d40_19 (by decide) rfl rfl (fun c19_1482 => ?_) (fun c19_1482 => ?_)
    · -- pc 19 taken
      refine go_iinc (pc' := 28) (z := (0 : Int32)) (l' := #[.val (.ref t), .val (.int (0 : Int32))]) W1481 d40_25 rfl (by decide) rfl rfl ?_
      refine go_goto (pc' := 7) W1481 d40_28 (by decide) rfl ?_
      refine go_iloadN (pc' := 8) W1481 d40_7 rfl rfl ?_
      refine go_if_lt (pt := 31) (pf := 11) W1481 d40_8 (by decide) rfl rfl (fun c8_1483 => ?_) (fun c8_1483 => ?_)
      · exact absurd c8_1483 (by decide)
      · -- pc 8 not taken
        refine go_aloadN (pc' := 12) W1481 d40_11 rfl rfl rfl ?_
        refine go_getF (pc' := 15) W1481 (host := "") (Or.inl (w53 hw)) Via.refl F0 d40_12 rfl ?_
        intro T1484 W1484
        refine go_iloadN (pc' := 16) W1484 d40_15 rfl rfl ?_
        refine go_laloadF (pc' := 17) (i := 0) (v := (.long p)) W1484 Ay (by decide) (by decide) rfl d40_16 rfl ?_
        refine go_lconst (pc' := 18) (z := 0) W1484 d40_17 rfl rfl ?_
        refine go_lcmp (pc' := 19) W1484 d40_18 rfl ?_
        refine go_if_eq (pt := 25) (pf := 22) W1484 d40_19 (by decide) rfl rfl (fun c19_1485 => ?_) (fun c19_1485 => ?_)
        · -- pc 19 taken
          refine go_iinc (pc' := 28) (z := (-1 : Int32)) (l' := #[.val (.ref t), .val (.int (-1 : Int32))]) W1484 d40_25 rfl (by decide) rfl rfl ?_
          refine go_goto (pc' := 7) W1484 d40_28 (by decide) rfl ?_
          refine go_iloadN (pc' := 8) W1484 d40_7 rfl rfl ?_
          refine go_if_lt (pt := 31) (pf := 11) W1484 d40_8 (by decide) rfl rfl (fun c8_1486 => ?_) (fun c8_1486 => ?_)
          · -- pc 8 taken
            refine go_aloadN (pc' := 32) W1484 d40_31 rfl rfl rfl ?_
            refine go_iloadN (pc' := 33) W1484 d40_32 rfl rfl ?_
            refine go_iconst (pc' := 34) (z := 1) W1484 d40_33 rfl rfl ?_
            refine go_iaddZ (pc' := 35) (z := 0) W1484 d40_34 (by decide) rfl ?_
            refine go_putF (pc' := 38) W1484 (host := "") (Or.inl (w40 hw)) Via.refl F1 Ea (Or.inl (w41 hw)) (w34 hw) (ty := .int) (by decide) rfl rfl ga d40_35 rfl ?_
            intro T1487 h1487 W1487 R1487
            have f1488 := Ea.wr R1487
            have f1489 := F0.other R1487 (Or.inr (slot_ne (Or.inl (w54 hw)) (Or.inl (w41 hw)) (by decide) (t := (.array .long)) (t' := .int) (by decide) (by decide)))
            have f1490 := F1.same R1487
            have f1491 := Ay.other R1487 (Ne.symm nty)
            have k1492 := (Keep.refl h0 [t]).wr R1487 (Or.inl (by simp))
            have z1493 := Nat.le_trans Z0 (Keep.of_wr R1487).1
            exact go_retV W1487 rfl d40_38 (nb rfl) (nb rfl) (⟨(0 : Int32), rfl, k1492, f1489, f1490, by simp [own_lw0 c19_1482, own_lw0 c19_1485]⟩)
          · exact absurd c8_1486 (by decide)
        · -- pc 19 not taken
          refine go_goto (pc' := 31) W1484 d40_22 (by decide) rfl ?_
          refine go_aloadN (pc' := 32) W1484 d40_31 rfl rfl rfl ?_
          refine go_iloadN (pc' := 33) W1484 d40_32 rfl rfl ?_
          refine go_iconst (pc' := 34) (z := 1) W1484 d40_33 rfl rfl ?_
          refine go_iaddZ (pc' := 35) (z := 1) W1484 d40_34 (by decide) rfl ?_
          refine go_putF (pc' := 38) W1484 (host := "") (Or.inl (w40 hw)) Via.refl F1 Ea (Or.inl (w41 hw)) (w34 hw) (ty := .int) (by decide) rfl rfl ga d40_35 rfl ?_
          intro T1494 h1494 W1494 R1494
          have f1495 := Ea.wr R1494
          have f1496 := F0.other R1494 (Or.inr (slot_ne (Or.inl (w54 hw)) (Or.inl (w41 hw)) (by decide) (t := (.array .long)) (t' := .int) (by decide) (by decide)))
          have f1497 := F1.same R1494
          have f1498 := Ay.other R1494 (Ne.symm nty)
          have k1499 := (Keep.refl h0 [t]).wr R1494 (Or.inl (by simp))
          have z1500 := Nat.le_trans Z0 (Keep.of_wr R1494).1
          exact go_retV W1494 rfl d40_38 (nb rfl) (nb rfl) (⟨(1 : Int32), rfl, k1499, f1496, f1497, by simp [own_lw0 c19_1482, own_lw1 c19_1485]⟩)
    · -- pc 19 not taken
      refine go_goto (pc' := 31) W1481 d40_22 (by decide) rfl ?_
      refine go_aloadN (pc' := 32) W1481 d40_31 rfl rfl rfl ?_
      refine go_iloadN (pc' := 33) W1481 d40_32 rfl rfl ?_
      refine go_iconst (pc' := 34) (z := 1) W1481 d40_33 rfl rfl ?_
      refine go_iaddZ (pc' := 35) (z := 2) W1481 d40_34 (by decide) rfl ?_
      refine go_putF (pc' := 38) W1481 (host := "") (Or.inl (w40 hw)) Via.refl F1 Ea (Or.inl (w41 hw)) (w34 hw) (ty := .int) (by decide) rfl rfl ga d40_35 rfl ?_
      intro T1501 h1501 W1501 R1501
      have f1502 := Ea.wr R1501
      have f1503 := F0.other R1501 (Or.inr (slot_ne (Or.inl (w54 hw)) (Or.inl (w41 hw)) (by decide) (t := (.array .long)) (t' := .int) (by decide) (by decide)))
      have f1504 := F1.same R1501
      have f1505 := Ay.other R1501 (Ne.symm nty)
      have k1506 := (Keep.refl h0 [t]).wr R1501 (Or.inl (by simp))
      have z1507 := Nat.le_trans Z0 (Keep.of_wr R1501).1
      exact go_retV W1501 rfl d40_38 (nb rfl) (nb rfl) (⟨(2 : Int32), rfl, k1506, f1503, f1504, by simp [own_lw1 c19_1482]⟩)
def own_an (p q p' q' : Int64) : Prop := p &&& (p' ^^^ -1) = 0 ∧ q &&& (q' ^^^ -1) = 0
instance (p q p' q' : Int64) : Decidable (own_an p q p' q') := inferInstanceAs (Decidable (_ ∧ _))
set_option maxRecDepth 65536 in
set_option maxHeartbeats 4000000 in
theorem rm39 (l : Launch) (Z : State) (a0 : Array Value) (hw : Hw a0 Z) (t : Addr) (b : Addr) (y x : Addr) (u u' : Nat) (p q p' q' : Int64) (h0 : Heap) (n0 : Nat) (Z0 : n0 ≤ h0.size) (Bt : own_B Z h0 t y u p q) (Bb : own_B Z h0 b x u' p' q') (ga : n0 ≤ t) (gy : n0 ≤ y) (n1 : t ≠ b) (n2 : t ≠ x) (n3 : y ≠ b) (n4 : y ≠ x) (nty : t ≠ y) (Sa : Sta Z h0 "java/util/BitSet" "$assertionsDisabled" "Z" (.int 1)) :
    Ct l Z K39 #[(.ref t), (.ref b)] h0 n0 (fun v h => ∃ r : Int32, v = none ∧ Keep h0 h [t, y] ∧ Fld Z h t "java/util/BitSet" "wordsInUse" "I" (.int r) ∧ (r = 0 ↔ own_an p q p' q')) := by
  refine Ct.of (Ls := #[.val (.ref t), .val (.ref b), .unset]) (plainFor_of_name (by first | decide +kernel | (simp [plainName, overriddenIn]; done))) (fun m => by first | rfl | (simp [entryFrame, mkF, argsToLocals, Value.category]; done)) ?_
  intro E T W
  obtain ⟨Et, Ft0, Ft1, rt⟩ := Bt
  rcases rt with ⟨rfl, rfl, rfl, At⟩ | ⟨rfl, rfl, At⟩ | ⟨rfl, At⟩
  · -- u = 0
    obtain ⟨Eb, Fb0, Fb1, rb⟩ := Bb
    rcases rb with ⟨rfl, rfl, rfl, Ab⟩ | ⟨rfl, rfl, Ab⟩ | ⟨rfl, Ab⟩
    · -- u' = 0
      refine go_aloadN (pc' := 1) W d39_0 rfl rfl rfl ?_
      refine go_getF (pc' := 4) W (host := "") (Or.inl (w40 hw)) Via.refl Ft1 d39_1 rfl ?_
      intro T1508 W1508
      refine go_aloadN (pc' := 5) W1508 d39_4 rfl rfl rfl ?_
      refine go_getF (pc' := 8) W1508 (host := "") (Or.inl (w40 hw)) Via.refl Fb1 d39_5 rfl ?_
      intro T1509 W1509
      refine go_callS (kc := K27) (argsL := [(.int (0 : Int32)), (.int (0 : Int32))]) (rest := []) (pc' := 11) W1509 (w257 hw) (w177 hw) (w115 hw) (w178 hw) (rmL27_0_0 E.l Z a0 hw h0 n0 Z0) (by decide) pd3 rfl rfl rfl (nb rfl) (nb rfl) (nb rfl) (nb rfl) d39_8 rfl ?_
      rintro _ T1510 h1510 ⟨rfl, q1510⟩ W1510
      replace W1510 := W1510.sub q1510
      show Go E _ (Fm E T1510 11 #[.val (.ref t), .val (.ref b), .unset] [(.int (0 : Int32))])
      refine go_iconst (pc' := 12) (z := 1) W1510 d39_11 rfl rfl ?_
      refine go_isubZ (pc' := 13) (z := (-1)) W1510 d39_12 (by decide) rfl ?_
      refine go_istoreN (pc' := 14) (l' := #[.val (.ref t), .val (.ref b), .val (.int (-1 : Int32))]) W1510 d39_13 rfl rfl ?_
      refine go_iloadN (pc' := 15) W1510 d39_14 rfl rfl ?_
      refine go_if_lt (pt := 43) (pf := 18) W1510 d39_15 (by decide) rfl rfl (fun c15_1511 => ?_) (fun c15_1511 => ?_)
      · -- pc 15 taken
        refine go_aloadN (pc' := 44) W1510 d39_43 rfl rfl rfl ?_
        refine go_callP (a := t) (kc := K40) (argsL := []) (rest := []) (pc' := 47) W1510 (w268 hw) (w269 hw) (w271 hw) (w270 hw) (w35 hw) (w272 hw) Et (rmRW_0 E.l Z a0 hw t y (0 : Int64) (0 : Int64) h0 n0 Z0 Et Ft0 Ft1 ga nty At) (by decide) pd0 rfl rfl rfl (nb rfl) (nb rfl) (nb rfl) (nb rfl) d39_44 rfl ?_
        rintro _ T1512 h1512 ⟨r1512, rfl, K1512, g1512_0, g1512_1, hr1512⟩ W1512
        have f1513 := Et.keep K1512
        have f1516 := Eb.keep K1512
        have f1517 := Fb0.keep K1512 (ninS (Ne.symm n1) nin0)
        have f1518 := Fb1.keep K1512 (ninS (Ne.symm n1) nin0)
        have k1519 := (Keep.refl h0 [t, y]).trans K1512 (allS (Or.inl (by simp)) all0)
        have z1520 := Nat.le_trans Z0 K1512.1
        have f1521 := At.keep K1512 (ninS (Ne.symm nty) nin0)
        have f1522 := Ab.keep K1512 (ninS (Ne.symm n2) nin0)
        have f1523 := Sta.keepN Sa K1512 (allS (Ns.exa Et) all0)
        show Go E _ (Fm E T1512 47 #[.val (.ref t), .val (.ref b), .val (.int (-1 : Int32))] [])
        refine go_aloadN (pc' := 48) W1512 d39_47 rfl rfl rfl ?_
        refine go_callP (a := t) (kc := K12) (argsL := []) (rest := []) (pc' := 51) W1512 (w70 hw) (w71 hw) (w73 hw) (w72 hw) (w35 hw) (w74 hw) f1513 (rm12 E.l Z a0 hw t h1512 n0 z1520 f1523) (by decide) pd0 rfl rfl rfl (nb rfl) (nb rfl) (nb rfl) (nb rfl) d39_48 rfl ?_
        rintro _ T1524 h1524 ⟨rfl, q1524⟩ W1524
        replace W1524 := W1524.sub q1524
        show Go E _ (Fm E T1524 51 #[.val (.ref t), .val (.ref b), .val (.int (-1 : Int32))] [])
        exact go_retV W1524 rfl d39_51 (nb rfl) (nb rfl) (⟨r1512, rfl, k1519, g1512_1, hr1512.trans (by simp [own_an, own_and1, own_0and])⟩)
      · exact absurd c15_1511 (by decide)
    · -- u' = 1
      refine go_aloadN (pc' := 1) W d39_0 rfl rfl rfl ?_
      refine go_getF (pc' := 4) W (host := "") (Or.inl (w40 hw)) Via.refl Ft1 d39_1 rfl ?_
      intro T1525 W1525
      refine go_aloadN (pc' := 5) W1525 d39_4 rfl rfl rfl ?_
      refine go_getF (pc' := 8) W1525 (host := "") (Or.inl (w40 hw)) Via.refl Fb1 d39_5 rfl ?_
      intro T1526 W1526
      refine go_callS (kc := K27) (argsL := [(.int (0 : Int32)), (.int (1 : Int32))]) (rest := []) (pc' := 11) W1526 (w257 hw) (w177 hw) (w115 hw) (w178 hw) (rmL27_0_1 E.l Z a0 hw h0 n0 Z0) (by decide) pd3 rfl rfl rfl (nb rfl) (nb rfl) (nb rfl) (nb rfl) d39_8 rfl ?_
      rintro _ T1527 h1527 ⟨rfl, q1527⟩ W1527
      replace W1527 := W1527.sub q1527
      show Go E _ (Fm E T1527 11 #[.val (.ref t), .val (.ref b), .unset] [(.int (0 : Int32))])
      refine go_iconst (pc' := 12) (z := 1) W1527 d39_11 rfl rfl ?_
      refine go_isubZ (pc' := 13) (z := (-1)) W1527 d39_12 (by decide) rfl ?_
      refine go_istoreN (pc' := 14) (l' := #[.val (.ref t), .val (.ref b), .val (.int (-1 : Int32))]) W1527 d39_13 rfl rfl ?_
      refine go_iloadN (pc' := 15) W1527 d39_14 rfl rfl ?_
      refine go_if_lt (pt := 43) (pf := 18) W1527 d39_15 (by decide) rfl rfl (fun c15_1528 => ?_) (fun c15_1528 => ?_)
      · -- pc 15 taken
        refine go_aloadN (pc' := 44) W1527 d39_43 rfl rfl rfl ?_
        refine go_callP (a := t) (kc := K40) (argsL := []) (rest := []) (pc' := 47) W1527 (w268 hw) (w269 hw) (w271 hw) (w270 hw) (w35 hw) (w272 hw) Et (rmRW_0 E.l Z a0 hw t y (0 : Int64) (0 : Int64) h0 n0 Z0 Et Ft0 Ft1 ga nty At) (by decide) pd0 rfl rfl rfl (nb rfl) (nb rfl) (nb rfl) (nb rfl) d39_44 rfl ?_
        rintro _ T1529 h1529 ⟨r1529, rfl, K1529, g1529_0, g1529_1, hr1529⟩ W1529
        have f1530 := Et.keep K1529
        have f1533 := Eb.keep K1529
        have f1534 := Fb0.keep K1529 (ninS (Ne.symm n1) nin0)
        have f1535 := Fb1.keep K1529 (ninS (Ne.symm n1) nin0)
        have k1536 := (Keep.refl h0 [t, y]).trans K1529 (allS (Or.inl (by simp)) all0)
        have z1537 := Nat.le_trans Z0 K1529.1
        have f1538 := At.keep K1529 (ninS (Ne.symm nty) nin0)
        have f1539 := Ab.keep K1529 (ninS (Ne.symm n2) nin0)
        have f1540 := Sta.keepN Sa K1529 (allS (Ns.exa Et) all0)
        show Go E _ (Fm E T1529 47 #[.val (.ref t), .val (.ref b), .val (.int (-1 : Int32))] [])
        refine go_aloadN (pc' := 48) W1529 d39_47 rfl rfl rfl ?_
        refine go_callP (a := t) (kc := K12) (argsL := []) (rest := []) (pc' := 51) W1529 (w70 hw) (w71 hw) (w73 hw) (w72 hw) (w35 hw) (w74 hw) f1530 (rm12 E.l Z a0 hw t h1529 n0 z1537 f1540) (by decide) pd0 rfl rfl rfl (nb rfl) (nb rfl) (nb rfl) (nb rfl) d39_48 rfl ?_
        rintro _ T1541 h1541 ⟨rfl, q1541⟩ W1541
        replace W1541 := W1541.sub q1541
        show Go E _ (Fm E T1541 51 #[.val (.ref t), .val (.ref b), .val (.int (-1 : Int32))] [])
        exact go_retV W1541 rfl d39_51 (nb rfl) (nb rfl) (⟨r1529, rfl, k1536, g1529_1, hr1529.trans (by simp [own_an, own_and1, own_0and])⟩)
      · exact absurd c15_1528 (by decide)
    · -- u' = 2
      refine go_aloadN (pc' := 1) W d39_0 rfl rfl rfl ?_
      refine go_getF (pc' := 4) W (host := "") (Or.inl (w40 hw)) Via.refl Ft1 d39_1 rfl ?_
      intro T1542 W1542
      refine go_aloadN (pc' := 5) W1542 d39_4 rfl rfl rfl ?_
      refine go_getF (pc' := 8) W1542 (host := "") (Or.inl (w40 hw)) Via.refl Fb1 d39_5 rfl ?_
      intro T1543 W1543
      refine go_callS (kc := K27) (argsL := [(.int (0 : Int32)), (.int (2 : Int32))]) (rest := []) (pc' := 11) W1543 (w257 hw) (w177 hw) (w115 hw) (w178 hw) (rmL27_0_2 E.l Z a0 hw h0 n0 Z0) (by decide) pd3 rfl rfl rfl (nb rfl) (nb rfl) (nb rfl) (nb rfl) d39_8 rfl ?_
      rintro _ T1544 h1544 ⟨rfl, q1544⟩ W1544
      replace W1544 := W1544.sub q1544
      show Go E _ (Fm E T1544 11 #[.val (.ref t), .val (.ref b), .unset] [(.int (0 : Int32))])
      refine go_iconst (pc' := 12) (z := 1) W1544 d39_11 rfl rfl ?_
      refine go_isubZ (pc' := 13) (z := (-1)) W1544 d39_12 (by decide) rfl ?_
      refine go_istoreN (pc' := 14) (l' := #[.val (.ref t), .val (.ref b), .val (.int (-1 : Int32))]) W1544 d39_13 rfl rfl ?_
      refine go_iloadN (pc' := 15) W1544 d39_14 rfl rfl ?_
      refine go_if_lt (pt := 43) (pf := 18) W1544 d39_15 (by decide) rfl rfl (fun c15_1545 => ?_) (fun c15_1545 => ?_)
      · -- pc 15 taken
        refine go_aloadN (pc' := 44) W1544 d39_43 rfl rfl rfl ?_
        refine go_callP (a := t) (kc := K40) (argsL := []) (rest := []) (pc' := 47) W1544 (w268 hw) (w269 hw) (w271 hw) (w270 hw) (w35 hw) (w272 hw) Et (rmRW_0 E.l Z a0 hw t y (0 : Int64) (0 : Int64) h0 n0 Z0 Et Ft0 Ft1 ga nty At) (by decide) pd0 rfl rfl rfl (nb rfl) (nb rfl) (nb rfl) (nb rfl) d39_44 rfl ?_
        rintro _ T1546 h1546 ⟨r1546, rfl, K1546, g1546_0, g1546_1, hr1546⟩ W1546
        have f1547 := Et.keep K1546
        have f1550 := Eb.keep K1546
        have f1551 := Fb0.keep K1546 (ninS (Ne.symm n1) nin0)
        have f1552 := Fb1.keep K1546 (ninS (Ne.symm n1) nin0)
        have k1553 := (Keep.refl h0 [t, y]).trans K1546 (allS (Or.inl (by simp)) all0)
        have z1554 := Nat.le_trans Z0 K1546.1
        have f1555 := At.keep K1546 (ninS (Ne.symm nty) nin0)
        have f1556 := Ab.keep K1546 (ninS (Ne.symm n2) nin0)
        have f1557 := Sta.keepN Sa K1546 (allS (Ns.exa Et) all0)
        show Go E _ (Fm E T1546 47 #[.val (.ref t), .val (.ref b), .val (.int (-1 : Int32))] [])
        refine go_aloadN (pc' := 48) W1546 d39_47 rfl rfl rfl ?_
        refine go_callP (a := t) (kc := K12) (argsL := []) (rest := []) (pc' := 51) W1546 (w70 hw) (w71 hw) (w73 hw) (w72 hw) (w35 hw) (w74 hw) f1547 (rm12 E.l Z a0 hw t h1546 n0 z1554 f1557) (by decide) pd0 rfl rfl rfl (nb rfl) (nb rfl) (nb rfl) (nb rfl) d39_48 rfl ?_
        rintro _ T1558 h1558 ⟨rfl, q1558⟩ W1558
        replace W1558 := W1558.sub q1558
        show Go E _ (Fm E T1558 51 #[.val (.ref t), .val (.ref b), .val (.int (-1 : Int32))] [])
        exact go_retV W1558 rfl d39_51 (nb rfl) (nb rfl) (⟨r1546, rfl, k1553, g1546_1, hr1546.trans (by simp [own_an, own_and1, own_0and])⟩)
      · exact absurd c15_1545 (by decide)
  · -- u = 1
    obtain ⟨Eb, Fb0, Fb1, rb⟩ := Bb
    rcases rb with ⟨rfl, rfl, rfl, Ab⟩ | ⟨rfl, rfl, Ab⟩ | ⟨rfl, Ab⟩
    · -- u' = 0
      refine go_aloadN (pc' := 1) W d39_0 rfl rfl rfl ?_
      refine go_getF (pc' := 4) W (host := "") (Or.inl (w40 hw)) Via.refl Ft1 d39_1 rfl ?_
      intro T1559 W1559
      refine go_aloadN (pc' := 5) W1559 d39_4 rfl rfl rfl ?_
      refine go_getF (pc' := 8) W1559 (host := "") (Or.inl (w40 hw)) Via.refl Fb1 d39_5 rfl ?_
      intro T1560 W1560
      refine go_callS (kc := K27) (argsL := [(.int (1 : Int32)), (.int (0 : Int32))]) (rest := []) (pc' := 11) W1560 (w257 hw) (w177 hw) (w115 hw) (w178 hw) (rmL27_1_0 E.l Z a0 hw h0 n0 Z0) (by decide) pd3 rfl rfl rfl (nb rfl) (nb rfl) (nb rfl) (nb rfl) d39_8 rfl ?_
      rintro _ T1561 h1561 ⟨rfl, q1561⟩ W1561
      replace W1561 := W1561.sub q1561
      show Go E _ (Fm E T1561 11 #[.val (.ref t), .val (.ref b), .unset] [(.int (0 : Int32))])
      refine go_iconst (pc' := 12) (z := 1) W1561 d39_11 rfl rfl ?_
      refine go_isubZ (pc' := 13) (z := (-1)) W1561 d39_12 (by decide) rfl ?_
      refine go_istoreN (pc' := 14) (l' := #[.val (.ref t), .val (.ref b), .val (.int (-1 : Int32))]) W1561 d39_13 rfl rfl ?_
      refine go_iloadN (pc' := 15) W1561 d39_14 rfl rfl ?_
      refine go_if_lt (pt := 43) (pf := 18) W1561 d39_15 (by decide) rfl rfl (fun c15_1562 => ?_) (fun c15_1562 => ?_)
      · -- pc 15 taken
        refine go_aloadN (pc' := 44) W1561 d39_43 rfl rfl rfl ?_
        refine go_callP (a := t) (kc := K40) (argsL := []) (rest := []) (pc' := 47) W1561 (w268 hw) (w269 hw) (w271 hw) (w270 hw) (w35 hw) (w272 hw) Et (rmRW_1 E.l Z a0 hw t y p (0 : Int64) h0 n0 Z0 Et Ft0 Ft1 ga nty At) (by decide) pd0 rfl rfl rfl (nb rfl) (nb rfl) (nb rfl) (nb rfl) d39_44 rfl ?_
        rintro _ T1563 h1563 ⟨r1563, rfl, K1563, g1563_0, g1563_1, hr1563⟩ W1563
        have f1564 := Et.keep K1563
        have f1567 := Eb.keep K1563
        have f1568 := Fb0.keep K1563 (ninS (Ne.symm n1) nin0)
        have f1569 := Fb1.keep K1563 (ninS (Ne.symm n1) nin0)
        have k1570 := (Keep.refl h0 [t, y]).trans K1563 (allS (Or.inl (by simp)) all0)
        have z1571 := Nat.le_trans Z0 K1563.1
        have f1572 := At.keep K1563 (ninS (Ne.symm nty) nin0)
        have f1573 := Ab.keep K1563 (ninS (Ne.symm n2) nin0)
        have f1574 := Sta.keepN Sa K1563 (allS (Ns.exa Et) all0)
        show Go E _ (Fm E T1563 47 #[.val (.ref t), .val (.ref b), .val (.int (-1 : Int32))] [])
        refine go_aloadN (pc' := 48) W1563 d39_47 rfl rfl rfl ?_
        refine go_callP (a := t) (kc := K12) (argsL := []) (rest := []) (pc' := 51) W1563 (w70 hw) (w71 hw) (w73 hw) (w72 hw) (w35 hw) (w74 hw) f1564 (rm12 E.l Z a0 hw t h1563 n0 z1571 f1574) (by decide) pd0 rfl rfl rfl (nb rfl) (nb rfl) (nb rfl) (nb rfl) d39_48 rfl ?_
        rintro _ T1575 h1575 ⟨rfl, q1575⟩ W1575
        replace W1575 := W1575.sub q1575
        show Go E _ (Fm E T1575 51 #[.val (.ref t), .val (.ref b), .val (.int (-1 : Int32))] [])
        exact go_retV W1575 rfl d39_51 (nb rfl) (nb rfl) (⟨r1563, rfl, k1570, g1563_1, hr1563.trans (by simp [own_an, own_and1, own_0and])⟩)
      · exact absurd c15_1562 (by decide)
    · -- u' = 1
      refine go_aloadN (pc' := 1) W d39_0 rfl rfl rfl ?_
      refine go_getF (pc' := 4) W (host := "") (Or.inl (w40 hw)) Via.refl Ft1 d39_1 rfl ?_
      intro T1576 W1576
      refine go_aloadN (pc' := 5) W1576 d39_4 rfl rfl rfl ?_
      refine go_getF (pc' := 8) W1576 (host := "") (Or.inl (w40 hw)) Via.refl Fb1 d39_5 rfl ?_
      intro T1577 W1577
      refine go_callS (kc := K27) (argsL := [(.int (1 : Int32)), (.int (1 : Int32))]) (rest := []) (pc' := 11) W1577 (w257 hw) (w177 hw) (w115 hw) (w178 hw) (rmL27_1_1 E.l Z a0 hw h0 n0 Z0) (by decide) pd3 rfl rfl rfl (nb rfl) (nb rfl) (nb rfl) (nb rfl) d39_8 rfl ?_
      rintro _ T1578 h1578 ⟨rfl, q1578⟩ W1578
      replace W1578 := W1578.sub q1578
      show Go E _ (Fm E T1578 11 #[.val (.ref t), .val (.ref b), .unset] [(.int (1 : Int32))])
      refine go_iconst (pc' := 12) (z := 1) W1578 d39_11 rfl rfl ?_
      refine go_isubZ (pc' := 13) (z := 0) W1578 d39_12 (by decide) rfl ?_
      refine go_istoreN (pc' := 14) (l' := #[.val (.ref t), .val (.ref b), .val (.int (0 : Int32))]) W1578 d39_13 rfl rfl ?_
      refine go_iloadN (pc' := 15) W1578 d39_14 rfl rfl ?_
      refine go_if_lt (pt := 43) (pf := 18) W1578 d39_15 (by decide) rfl rfl (fun c15_1579 => ?_) (fun c15_1579 => ?_)
      · exact absurd c15_1579 (by decide)
      · -- pc 15 not taken
        refine go_aloadN (pc' := 19) W1578 d39_18 rfl rfl rfl ?_
        refine go_getF (pc' := 22) W1578 (host := "") (Or.inl (w53 hw)) Via.refl Ft0 d39_19 rfl ?_
        intro T1580 W1580
        refine go_iloadN (pc' := 23) W1580 d39_22 rfl rfl ?_
        refine go_dup2 (pc' := 24) W1580 d39_23 rfl rfl rfl ?_
        refine go_laloadF (pc' := 25) (i := 0) (v := (.long p)) W1580 At (by decide) (by decide) rfl d39_24 rfl ?_
        refine go_aloadN (pc' := 26) W1580 d39_25 rfl rfl rfl ?_
        refine go_getF (pc' := 29) W1580 (host := "") (Or.inl (w53 hw)) Via.refl Fb0 d39_26 rfl ?_
        intro T1581 W1581
        refine go_iloadN (pc' := 30) W1581 d39_29 rfl rfl ?_
        refine go_laloadF (pc' := 31) (i := 0) (v := (.long p')) W1581 Ab (by decide) (by decide) rfl d39_30 rfl ?_
        refine go_ldc2Long (pc' := 34) W1581 (w298 hw) d39_31 rfl ?_
        refine go_lxor (pc' := 35) W1581 d39_34 rfl ?_
        refine go_land (pc' := 36) W1581 d39_35 rfl ?_
        refine go_stJF (pc' := 37) (i := 0) W1581 At (by decide) (by decide) gy d39_36 rfl ?_
        intro T1582 h1582 W1582 R1582 A1582
        have f1583 := Sa.wr R1582
        have f1584 := Et.wr R1582
        have f1585 := Ft0.other R1582 (Or.inl nty)
        have f1586 := Ft1.other R1582 (Or.inl nty)
        have f1588 := Eb.wr R1582
        have f1589 := Fb0.other R1582 (Or.inl (Ne.symm n3))
        have f1590 := Fb1.other R1582 (Or.inl (Ne.symm n3))
        have f1591 := Ab.other R1582 (Ne.symm n4)
        have k1592 := (Keep.refl h0 [t, y]).wr R1582 (Or.inl (by simp))
        have z1593 := Nat.le_trans Z0 (Keep.of_wr R1582).1
        refine go_iinc (pc' := 40) (z := (-1 : Int32)) (l' := #[.val (.ref t), .val (.ref b), .val (.int (-1 : Int32))]) W1582 d39_37 rfl (by decide) rfl rfl ?_
        refine go_goto (pc' := 14) W1582 d39_40 (by decide) rfl ?_
        refine go_iloadN (pc' := 15) W1582 d39_14 rfl rfl ?_
        refine go_if_lt (pt := 43) (pf := 18) W1582 d39_15 (by decide) rfl rfl (fun c15_1594 => ?_) (fun c15_1594 => ?_)
        · -- pc 15 taken
          refine go_aloadN (pc' := 44) W1582 d39_43 rfl rfl rfl ?_
          refine go_callP (a := t) (kc := K40) (argsL := []) (rest := []) (pc' := 47) W1582 (w268 hw) (w269 hw) (w271 hw) (w270 hw) (w35 hw) (w272 hw) f1584 (rmRW_1 E.l Z a0 hw t y (p &&& (p' ^^^ (-1 : Int64))) (0 : Int64) h1582 n0 z1593 f1584 f1585 f1586 ga nty (A1582.congr (fun j hj => by match j, hj with | 0, _ => rfl))) (by decide) pd0 rfl rfl rfl (nb rfl) (nb rfl) (nb rfl) (nb rfl) d39_44 rfl ?_
          rintro _ T1595 h1595 ⟨r1595, rfl, K1595, g1595_0, g1595_1, hr1595⟩ W1595
          have f1596 := f1584.keep K1595
          have f1599 := f1588.keep K1595
          have f1600 := f1589.keep K1595 (ninS (Ne.symm n1) nin0)
          have f1601 := f1590.keep K1595 (ninS (Ne.symm n1) nin0)
          have k1602 := k1592.trans K1595 (allS (Or.inl (by simp)) all0)
          have z1603 := Nat.le_trans z1593 K1595.1
          have f1604 := f1591.keep K1595 (ninS (Ne.symm n2) nin0)
          have f1605 := A1582.keep K1595 (ninS (Ne.symm nty) nin0)
          have f1606 := Sta.keepN f1583 K1595 (allS (Ns.exa f1584) all0)
          show Go E _ (Fm E T1595 47 #[.val (.ref t), .val (.ref b), .val (.int (-1 : Int32))] [])
          refine go_aloadN (pc' := 48) W1595 d39_47 rfl rfl rfl ?_
          refine go_callP (a := t) (kc := K12) (argsL := []) (rest := []) (pc' := 51) W1595 (w70 hw) (w71 hw) (w73 hw) (w72 hw) (w35 hw) (w74 hw) f1596 (rm12 E.l Z a0 hw t h1595 n0 z1603 f1606) (by decide) pd0 rfl rfl rfl (nb rfl) (nb rfl) (nb rfl) (nb rfl) d39_48 rfl ?_
          rintro _ T1607 h1607 ⟨rfl, q1607⟩ W1607
          replace W1607 := W1607.sub q1607
          show Go E _ (Fm E T1607 51 #[.val (.ref t), .val (.ref b), .val (.int (-1 : Int32))] [])
          exact go_retV W1607 rfl d39_51 (nb rfl) (nb rfl) (⟨r1595, rfl, k1602, g1595_1, hr1595.trans (by simp [own_an, own_and1, own_0and])⟩)
        · exact absurd c15_1594 (by decide)
    · -- u' = 2
      refine go_aloadN (pc' := 1) W d39_0 rfl rfl rfl ?_
      refine go_getF (pc' := 4) W (host := "") (Or.inl (w40 hw)) Via.refl Ft1 d39_1 rfl ?_
      intro T1608 W1608
      refine go_aloadN (pc' := 5) W1608 d39_4 rfl rfl rfl ?_
      refine go_getF (pc' := 8) W1608 (host := "") (Or.inl (w40 hw)) Via.refl Fb1 d39_5 rfl ?_
      intro T1609 W1609
      refine go_callS (kc := K27) (argsL := [(.int (1 : Int32)), (.int (2 : Int32))]) (rest := []) (pc' := 11) W1609 (w257 hw) (w177 hw) (w115 hw) (w178 hw) (rmL27_1_2 E.l Z a0 hw h0 n0 Z0) (by decide) pd3 rfl rfl rfl (nb rfl) (nb rfl) (nb rfl) (nb rfl) d39_8 rfl ?_
      rintro _ T1610 h1610 ⟨rfl, q1610⟩ W1610
      replace W1610 := W1610.sub q1610
      show Go E _ (Fm E T1610 11 #[.val (.ref t), .val (.ref b), .unset] [(.int (1 : Int32))])
      refine go_iconst (pc' := 12) (z := 1) W1610 d39_11 rfl rfl ?_
      refine go_isubZ (pc' := 13) (z := 0) W1610 d39_12 (by decide) rfl ?_
      refine go_istoreN (pc' := 14) (l' := #[.val (.ref t), .val (.ref b), .val (.int (0 : Int32))]) W1610 d39_13 rfl rfl ?_
      refine go_iloadN (pc' := 15) W1610 d39_14 rfl rfl ?_
      refine go_if_lt (pt := 43) (pf := 18) W1610 d39_15 (by decide) rfl rfl (fun c15_1611 => ?_) (fun c15_1611 => ?_)
      · exact absurd c15_1611 (by decide)
      · -- pc 15 not taken
        refine go_aloadN (pc' := 19) W1610 d39_18 rfl rfl rfl ?_
        refine go_getF (pc' := 22) W1610 (host := "") (Or.inl (w53 hw)) Via.refl Ft0 d39_19 rfl ?_
        intro T1612 W1612
        refine go_iloadN (pc' := 23) W1612 d39_22 rfl rfl ?_
        refine go_dup2 (pc' := 24) W1612 d39_23 rfl rfl rfl ?_
        refine go_laloadF (pc' := 25) (i := 0) (v := (.long p)) W1612 At (by decide) (by decide) rfl d39_24 rfl ?_
        refine go_aloadN (pc' := 26) W1612 d39_25 rfl rfl rfl ?_
        refine go_getF (pc' := 29) W1612 (host := "") (Or.inl (w53 hw)) Via.refl Fb0 d39_26 rfl ?_
        intro T1613 W1613
        refine go_iloadN (pc' := 30) W1613 d39_29 rfl rfl ?_
        refine go_laloadF (pc' := 31) (i := 0) (v := (.long p')) W1613 Ab (by decide) (by decide) rfl d39_30 rfl ?_
        refine go_ldc2Long (pc' := 34) W1613 (w298 hw) d39_31 rfl ?_
        refine go_lxor (pc' := 35) W1613 d39_34 rfl ?_
        refine go_land (pc' := 36) W1613 d39_35 rfl ?_
        refine go_stJF (pc' := 37) (i := 0) W1613 At (by decide) (by decide) gy d39_36 rfl ?_
        intro T1614 h1614 W1614 R1614 A1614
        have f1615 := Sa.wr R1614
        have f1616 := Et.wr R1614
        have f1617 := Ft0.other R1614 (Or.inl nty)
        have f1618 := Ft1.other R1614 (Or.inl nty)
        have f1620 := Eb.wr R1614
        have f1621 := Fb0.other R1614 (Or.inl (Ne.symm n3))
        have f1622 := Fb1.other R1614 (Or.inl (Ne.symm n3))
        have f1623 := Ab.other R1614 (Ne.symm n4)
        have k1624 := (Keep.refl h0 [t, y]).wr R1614 (Or.inl (by simp))
        have z1625 := Nat.le_trans Z0 (Keep.of_wr R1614).1
        refine go_iinc (pc' := 40) (z := (-1 : Int32)) (l' := #[.val (.ref t), .val (.ref b), .val (.int (-1 : Int32))]) W1614 d39_37 rfl (by decide) rfl rfl ?_
        refine go_goto (pc' := 14) W1614 d39_40 (by decide) rfl ?_
        refine go_iloadN (pc' := 15) W1614 d39_14 rfl rfl ?_
        refine go_if_lt (pt := 43) (pf := 18) W1614 d39_15 (by decide) rfl rfl (fun c15_1626 => ?_) (fun c15_1626 => ?_)
        · -- pc 15 taken
          refine go_aloadN (pc' := 44) W1614 d39_43 rfl rfl rfl ?_
          refine go_callP (a := t) (kc := K40) (argsL := []) (rest := []) (pc' := 47) W1614 (w268 hw) (w269 hw) (w271 hw) (w270 hw) (w35 hw) (w272 hw) f1616 (rmRW_1 E.l Z a0 hw t y (p &&& (p' ^^^ (-1 : Int64))) (0 : Int64) h1614 n0 z1625 f1616 f1617 f1618 ga nty (A1614.congr (fun j hj => by match j, hj with | 0, _ => rfl))) (by decide) pd0 rfl rfl rfl (nb rfl) (nb rfl) (nb rfl) (nb rfl) d39_44 rfl ?_
          rintro _ T1627 h1627 ⟨r1627, rfl, K1627, g1627_0, g1627_1, hr1627⟩ W1627
          have f1628 := f1616.keep K1627
          have f1631 := f1620.keep K1627
          have f1632 := f1621.keep K1627 (ninS (Ne.symm n1) nin0)
          have f1633 := f1622.keep K1627 (ninS (Ne.symm n1) nin0)
          have k1634 := k1624.trans K1627 (allS (Or.inl (by simp)) all0)
          have z1635 := Nat.le_trans z1625 K1627.1
          have f1636 := f1623.keep K1627 (ninS (Ne.symm n2) nin0)
          have f1637 := A1614.keep K1627 (ninS (Ne.symm nty) nin0)
          have f1638 := Sta.keepN f1615 K1627 (allS (Ns.exa f1616) all0)
          show Go E _ (Fm E T1627 47 #[.val (.ref t), .val (.ref b), .val (.int (-1 : Int32))] [])
          refine go_aloadN (pc' := 48) W1627 d39_47 rfl rfl rfl ?_
          refine go_callP (a := t) (kc := K12) (argsL := []) (rest := []) (pc' := 51) W1627 (w70 hw) (w71 hw) (w73 hw) (w72 hw) (w35 hw) (w74 hw) f1628 (rm12 E.l Z a0 hw t h1627 n0 z1635 f1638) (by decide) pd0 rfl rfl rfl (nb rfl) (nb rfl) (nb rfl) (nb rfl) d39_48 rfl ?_
          rintro _ T1639 h1639 ⟨rfl, q1639⟩ W1639
          replace W1639 := W1639.sub q1639
          show Go E _ (Fm E T1639 51 #[.val (.ref t), .val (.ref b), .val (.int (-1 : Int32))] [])
          exact go_retV W1639 rfl d39_51 (nb rfl) (nb rfl) (⟨r1627, rfl, k1634, g1627_1, hr1627.trans (by simp [own_an, own_and1, own_0and])⟩)
        · exact absurd c15_1626 (by decide)
  · -- u = 2
    obtain ⟨Eb, Fb0, Fb1, rb⟩ := Bb
    rcases rb with ⟨rfl, rfl, rfl, Ab⟩ | ⟨rfl, rfl, Ab⟩ | ⟨rfl, Ab⟩
    · -- u' = 0
      refine go_aloadN (pc' := 1) W d39_0 rfl rfl rfl ?_
      refine go_getF (pc' := 4) W (host := "") (Or.inl (w40 hw)) Via.refl Ft1 d39_1 rfl ?_
      intro T1640 W1640
      refine go_aloadN (pc' := 5) W1640 d39_4 rfl rfl rfl ?_
      refine go_getF (pc' := 8) W1640 (host := "") (Or.inl (w40 hw)) Via.refl Fb1 d39_5 rfl ?_
      intro T1641 W1641
      refine go_callS (kc := K27) (argsL := [(.int (2 : Int32)), (.int (0 : Int32))]) (rest := []) (pc' := 11) W1641 (w257 hw) (w177 hw) (w115 hw) (w178 hw) (rmL27_2_0 E.l Z a0 hw h0 n0 Z0) (by decide) pd3 rfl rfl rfl (nb rfl) (nb rfl) (nb rfl) (nb rfl) d39_8 rfl ?_
      rintro _ T1642 h1642 ⟨rfl, q1642⟩ W1642
      replace W1642 := W1642.sub q1642
      show Go E _ (Fm E T1642 11 #[.val (.ref t), .val (.ref b), .unset] [(.int (0 : Int32))])
      refine go_iconst (pc' := 12) (z := 1) W1642 d39_11 rfl rfl ?_
      refine go_isubZ (pc' := 13) (z := (-1)) W1642 d39_12 (by decide) rfl ?_
      refine go_istoreN (pc' := 14) (l' := #[.val (.ref t), .val (.ref b), .val (.int (-1 : Int32))]) W1642 d39_13 rfl rfl ?_
      refine go_iloadN (pc' := 15) W1642 d39_14 rfl rfl ?_
      refine go_if_lt (pt := 43) (pf := 18) W1642 d39_15 (by decide) rfl rfl (fun c15_1643 => ?_) (fun c15_1643 => ?_)
      · -- pc 15 taken
        refine go_aloadN (pc' := 44) W1642 d39_43 rfl rfl rfl ?_
        refine go_callP (a := t) (kc := K40) (argsL := []) (rest := []) (pc' := 47) W1642 (w268 hw) (w269 hw) (w271 hw) (w270 hw) (w35 hw) (w272 hw) Et (rmRW_2 E.l Z a0 hw t y p q h0 n0 Z0 Et Ft0 Ft1 ga nty At) (by decide) pd0 rfl rfl rfl (nb rfl) (nb rfl) (nb rfl) (nb rfl) d39_44 rfl ?_
        rintro _ T1644 h1644 ⟨r1644, rfl, K1644, g1644_0, g1644_1, hr1644⟩ W1644
        have f1645 := Et.keep K1644
        have f1648 := Eb.keep K1644
        have f1649 := Fb0.keep K1644 (ninS (Ne.symm n1) nin0)
        have f1650 := Fb1.keep K1644 (ninS (Ne.symm n1) nin0)
        have k1651 := (Keep.refl h0 [t, y]).trans K1644 (allS (Or.inl (by simp)) all0)
        have z1652 := Nat.le_trans Z0 K1644.1
        have f1653 := At.keep K1644 (ninS (Ne.symm nty) nin0)
        have f1654 := Ab.keep K1644 (ninS (Ne.symm n2) nin0)
        have f1655 := Sta.keepN Sa K1644 (allS (Ns.exa Et) all0)
        show Go E _ (Fm E T1644 47 #[.val (.ref t), .val (.ref b), .val (.int (-1 : Int32))] [])
        refine go_aloadN (pc' := 48) W1644 d39_47 rfl rfl rfl ?_
        refine go_callP (a := t) (kc := K12) (argsL := []) (rest := []) (pc' := 51) W1644 (w70 hw) (w71 hw) (w73 hw) (w72 hw) (w35 hw) (w74 hw) f1645 (rm12 E.l Z a0 hw t h1644 n0 z1652 f1655) (by decide) pd0 rfl rfl rfl (nb rfl) (nb rfl) (nb rfl) (nb rfl) d39_48 rfl ?_
        rintro _ T1656 h1656 ⟨rfl, q1656⟩ W1656
        replace W1656 := W1656.sub q1656
        show Go E _ (Fm E T1656 51 #[.val (.ref t), .val (.ref b), .val (.int (-1 : Int32))] [])
        exact go_retV W1656 rfl d39_51 (nb rfl) (nb rfl) (⟨r1644, rfl, k1651, g1644_1, hr1644.trans (by simp [own_an, own_and1, own_0and])⟩)
      · exact absurd c15_1643 (by decide)
    · -- u' = 1
      refine go_aloadN (pc' := 1) W d39_0 rfl rfl rfl ?_
      refine go_getF (pc' := 4) W (host := "") (Or.inl (w40 hw)) Via.refl Ft1 d39_1 rfl ?_
      intro T1657 W1657
      refine go_aloadN (pc' := 5) W1657 d39_4 rfl rfl rfl ?_
      refine go_getF (pc' := 8) W1657 (host := "") (Or.inl (w40 hw)) Via.refl Fb1 d39_5 rfl ?_
      intro T1658 W1658
      refine go_callS (kc := K27) (argsL := [(.int (2 : Int32)), (.int (1 : Int32))]) (rest := []) (pc' := 11) W1658 (w257 hw) (w177 hw) (w115 hw) (w178 hw) (rmL27_2_1 E.l Z a0 hw h0 n0 Z0) (by decide) pd3 rfl rfl rfl (nb rfl) (nb rfl) (nb rfl) (nb rfl) d39_8 rfl ?_
      rintro _ T1659 h1659 ⟨rfl, q1659⟩ W1659
      replace W1659 := W1659.sub q1659
      show Go E _ (Fm E T1659 11 #[.val (.ref t), .val (.ref b), .unset] [(.int (1 : Int32))])
      refine go_iconst (pc' := 12) (z := 1) W1659 d39_11 rfl rfl ?_
      refine go_isubZ (pc' := 13) (z := 0) W1659 d39_12 (by decide) rfl ?_
      refine go_istoreN (pc' := 14) (l' := #[.val (.ref t), .val (.ref b), .val (.int (0 : Int32))]) W1659 d39_13 rfl rfl ?_
      refine go_iloadN (pc' := 15) W1659 d39_14 rfl rfl ?_
      refine go_if_lt (pt := 43) (pf := 18) W1659 d39_15 (by decide) rfl rfl (fun c15_1660 => ?_) (fun c15_1660 => ?_)
      · exact absurd c15_1660 (by decide)
      · -- pc 15 not taken
        refine go_aloadN (pc' := 19) W1659 d39_18 rfl rfl rfl ?_
        refine go_getF (pc' := 22) W1659 (host := "") (Or.inl (w53 hw)) Via.refl Ft0 d39_19 rfl ?_
        intro T1661 W1661
        refine go_iloadN (pc' := 23) W1661 d39_22 rfl rfl ?_
        refine go_dup2 (pc' := 24) W1661 d39_23 rfl rfl rfl ?_
        refine go_laloadF (pc' := 25) (i := 0) (v := (.long p)) W1661 At (by decide) (by decide) rfl d39_24 rfl ?_
        refine go_aloadN (pc' := 26) W1661 d39_25 rfl rfl rfl ?_
        refine go_getF (pc' := 29) W1661 (host := "") (Or.inl (w53 hw)) Via.refl Fb0 d39_26 rfl ?_
        intro T1662 W1662
        refine go_iloadN (pc' := 30) W1662 d39_29 rfl rfl ?_
        refine go_laloadF (pc' := 31) (i := 0) (v := (.long p')) W1662 Ab (by decide) (by decide) rfl d39_30 rfl ?_
        refine go_ldc2Long (pc' := 34) W1662 (w298 hw) d39_31 rfl ?_
        refine go_lxor (pc' := 35) W1662 d39_34 rfl ?_
        refine go_land (pc' := 36) W1662 d39_35 rfl ?_
        refine go_stJF (pc' := 37) (i := 0) W1662 At (by decide) (by decide) gy d39_36 rfl ?_
        intro T1663 h1663 W1663 R1663 A1663
        have f1664 := Sa.wr R1663
        have f1665 := Et.wr R1663
        have f1666 := Ft0.other R1663 (Or.inl nty)
        have f1667 := Ft1.other R1663 (Or.inl nty)
        have f1669 := Eb.wr R1663
        have f1670 := Fb0.other R1663 (Or.inl (Ne.symm n3))
        have f1671 := Fb1.other R1663 (Or.inl (Ne.symm n3))
        have f1672 := Ab.other R1663 (Ne.symm n4)
        have k1673 := (Keep.refl h0 [t, y]).wr R1663 (Or.inl (by simp))
        have z1674 := Nat.le_trans Z0 (Keep.of_wr R1663).1
        refine go_iinc (pc' := 40) (z := (-1 : Int32)) (l' := #[.val (.ref t), .val (.ref b), .val (.int (-1 : Int32))]) W1663 d39_37 rfl (by decide) rfl rfl ?_
        refine go_goto (pc' := 14) W1663 d39_40 (by decide) rfl ?_
        refine go_iloadN (pc' := 15) W1663 d39_14 rfl rfl ?_
        refine go_if_lt (pt := 43) (pf := 18) W1663 d39_15 (by decide) rfl rfl (fun c15_1675 => ?_) (fun c15_1675 => ?_)
        · -- pc 15 taken
          refine go_aloadN (pc' := 44) W1663 d39_43 rfl rfl rfl ?_
          refine go_callP (a := t) (kc := K40) (argsL := []) (rest := []) (pc' := 47) W1663 (w268 hw) (w269 hw) (w271 hw) (w270 hw) (w35 hw) (w272 hw) f1665 (rmRW_2 E.l Z a0 hw t y (p &&& (p' ^^^ (-1 : Int64))) q h1663 n0 z1674 f1665 f1666 f1667 ga nty (A1663.congr (fun j hj => by match j, hj with | 0, _ => rfl | 1, _ => rfl))) (by decide) pd0 rfl rfl rfl (nb rfl) (nb rfl) (nb rfl) (nb rfl) d39_44 rfl ?_
          rintro _ T1676 h1676 ⟨r1676, rfl, K1676, g1676_0, g1676_1, hr1676⟩ W1676
          have f1677 := f1665.keep K1676
          have f1680 := f1669.keep K1676
          have f1681 := f1670.keep K1676 (ninS (Ne.symm n1) nin0)
          have f1682 := f1671.keep K1676 (ninS (Ne.symm n1) nin0)
          have k1683 := k1673.trans K1676 (allS (Or.inl (by simp)) all0)
          have z1684 := Nat.le_trans z1674 K1676.1
          have f1685 := f1672.keep K1676 (ninS (Ne.symm n2) nin0)
          have f1686 := A1663.keep K1676 (ninS (Ne.symm nty) nin0)
          have f1687 := Sta.keepN f1664 K1676 (allS (Ns.exa f1665) all0)
          show Go E _ (Fm E T1676 47 #[.val (.ref t), .val (.ref b), .val (.int (-1 : Int32))] [])
          refine go_aloadN (pc' := 48) W1676 d39_47 rfl rfl rfl ?_
          refine go_callP (a := t) (kc := K12) (argsL := []) (rest := []) (pc' := 51) W1676 (w70 hw) (w71 hw) (w73 hw) (w72 hw) (w35 hw) (w74 hw) f1677 (rm12 E.l Z a0 hw t h1676 n0 z1684 f1687) (by decide) pd0 rfl rfl rfl (nb rfl) (nb rfl) (nb rfl) (nb rfl) d39_48 rfl ?_
          rintro _ T1688 h1688 ⟨rfl, q1688⟩ W1688
          replace W1688 := W1688.sub q1688
          show Go E _ (Fm E T1688 51 #[.val (.ref t), .val (.ref b), .val (.int (-1 : Int32))] [])
          exact go_retV W1688 rfl d39_51 (nb rfl) (nb rfl) (⟨r1676, rfl, k1683, g1676_1, hr1676.trans (by simp [own_an, own_and1, own_0and])⟩)
        · exact absurd c15_1675 (by decide)
    · -- u' = 2
      refine go_aloadN (pc' := 1) W d39_0 rfl rfl rfl ?_
      refine go_getF (pc' := 4) W (host := "") (Or.inl (w40 hw)) Via.refl Ft1 d39_1 rfl ?_
      intro T1689 W1689
      refine go_aloadN (pc' := 5) W1689 d39_4 rfl rfl rfl ?_
      refine go_getF (pc' := 8) W1689 (host := "") (Or.inl (w40 hw)) Via.refl Fb1 d39_5 rfl ?_
      intro T1690 W1690
      refine go_callS (kc := K27) (argsL := [(.int (2 : Int32)), (.int (2 : Int32))]) (rest := []) (pc' := 11) W1690 (w257 hw) (w177 hw) (w115 hw) (w178 hw) (rmL27_2_2 E.l Z a0 hw h0 n0 Z0) (by decide) pd3 rfl rfl rfl (nb rfl) (nb rfl) (nb rfl) (nb rfl) d39_8 rfl ?_
      rintro _ T1691 h1691 ⟨rfl, q1691⟩ W1691
      replace W1691 := W1691.sub q1691
      show Go E _ (Fm E T1691 11 #[.val (.ref t), .val (.ref b), .unset] [(.int (2 : Int32))])
      refine go_iconst (pc' := 12) (z := 1) W1691 d39_11 rfl rfl ?_
      refine go_isubZ (pc' := 13) (z := 1) W1691 d39_12 (by decide) rfl ?_
      refine go_istoreN (pc' := 14) (l' := #[.val (.ref t), .val (.ref b), .val (.int (1 : Int32))]) W1691 d39_13 rfl rfl ?_
      refine go_iloadN (pc' := 15) W1691 d39_14 rfl rfl ?_
      refine go_if_lt (pt := 43) (pf := 18) W1691 d39_15 (by decide) rfl rfl (fun c15_1692 => ?_) (fun c15_1692 => ?_)
      · exact absurd c15_1692 (by decide)
      · -- pc 15 not taken
        refine go_aloadN (pc' := 19) W1691 d39_18 rfl rfl rfl ?_
        refine go_getF (pc' := 22) W1691 (host := "") (Or.inl (w53 hw)) Via.refl Ft0 d39_19 rfl ?_
        intro T1693 W1693
        refine go_iloadN (pc' := 23) W1693 d39_22 rfl rfl ?_
        refine go_dup2 (pc' := 24) W1693 d39_23 rfl rfl rfl ?_
        refine go_laloadF (pc' := 25) (i := 1) (v := (.long q)) W1693 At (by decide) (by decide) rfl d39_24 rfl ?_
        refine go_aloadN (pc' := 26) W1693 d39_25 rfl rfl rfl ?_
        refine go_getF (pc' := 29) W1693 (host := "") (Or.inl (w53 hw)) Via.refl Fb0 d39_26 rfl ?_
        intro T1694 W1694
        refine go_iloadN (pc' := 30) W1694 d39_29 rfl rfl ?_
        refine go_laloadF (pc' := 31) (i := 1) (v := (.long q')) W1694 Ab (by decide) (by decide) rfl d39_30 rfl ?_
        refine go_ldc2Long (pc' := 34) W1694 (w298 hw) d39_31 rfl ?_
        refine go_lxor (pc' := 35) W1694 d39_34 rfl ?_
        refine go_land (pc' := 36) W1694 d39_35 rfl ?_
        refine go_stJF (pc' := 37) (i := 1) W1694 At (by decide) (by decide) gy d39_36 rfl ?_
        intro T1695 h1695 W1695 R1695 A1695
        have f1696 := Sa.wr R1695
        have f1697 := Et.wr R1695
        have f1698 := Ft0.other R1695 (Or.inl nty)
        have f1699 := Ft1.other R1695 (Or.inl nty)
        have f1701 := Eb.wr R1695
        have f1702 := Fb0.other R1695 (Or.inl (Ne.symm n3))
        have f1703 := Fb1.other R1695 (Or.inl (Ne.symm n3))
        have f1704 := Ab.other R1695 (Ne.symm n4)
        have k1705 := (Keep.refl h0 [t, y]).wr R1695 (Or.inl (by simp))
        have z1706 := Nat.le_trans Z0 (Keep.of_wr R1695).1
        refine go_iinc (pc' := 40) (z := (0 : Int32)) (l' := #[.val (.ref t), .val (.ref b), .val (.int (0 : Int32))]) W1695 d39_37 rfl (by decide) rfl rfl ?_
        refine go_goto (pc' := 14) W1695 d39_40 (by decide) rfl ?_
        refine go_iloadN (pc' := 15) W1695 d39_14 rfl rfl ?_
        refine go_if_lt (pt := 43) (pf := 18) W1695 d39_15 (by decide) rfl rfl (fun c15_1707 => ?_) (fun c15_1707 => ?_)
        · exact absurd c15_1707 (by decide)
        · -- pc 15 not taken
          refine go_aloadN (pc' := 19) W1695 d39_18 rfl rfl rfl ?_
          refine go_getF (pc' := 22) W1695 (host := "") (Or.inl (w53 hw)) Via.refl f1698 d39_19 rfl ?_
          intro T1708 W1708
          refine go_iloadN (pc' := 23) W1708 d39_22 rfl rfl ?_
          refine go_dup2 (pc' := 24) W1708 d39_23 rfl rfl rfl ?_
          refine go_laloadF (pc' := 25) (i := 0) (v := (.long p)) W1708 A1695 (by decide) (by decide) rfl d39_24 rfl ?_
          refine go_aloadN (pc' := 26) W1708 d39_25 rfl rfl rfl ?_
          refine go_getF (pc' := 29) W1708 (host := "") (Or.inl (w53 hw)) Via.refl f1702 d39_26 rfl ?_
          intro T1709 W1709
          refine go_iloadN (pc' := 30) W1709 d39_29 rfl rfl ?_
          refine go_laloadF (pc' := 31) (i := 0) (v := (.long p')) W1709 f1704 (by decide) (by decide) rfl d39_30 rfl ?_
          refine go_ldc2Long (pc' := 34) W1709 (w298 hw) d39_31 rfl ?_
          refine go_lxor (pc' := 35) W1709 d39_34 rfl ?_
          refine go_land (pc' := 36) W1709 d39_35 rfl ?_
          refine go_stJF (pc' := 37) (i := 0) W1709 A1695 (by decide) (by decide) gy d39_36 rfl ?_
          intro T1710 h1710 W1710 R1710 A1710
          have f1711 := f1696.wr R1710
          have f1712 := f1697.wr R1710
          have f1713 := f1698.other R1710 (Or.inl nty)
          have f1714 := f1699.other R1710 (Or.inl nty)
          have f1715 := f1701.wr R1710
          have f1716 := f1702.other R1710 (Or.inl (Ne.symm n3))
          have f1717 := f1703.other R1710 (Or.inl (Ne.symm n3))
          have f1718 := f1704.other R1710 (Ne.symm n4)
          have k1720 := k1705.wr R1710 (Or.inl (by simp))
          have z1721 := Nat.le_trans z1706 (Keep.of_wr R1710).1
          refine go_iinc (pc' := 40) (z := (-1 : Int32)) (l' := #[.val (.ref t), .val (.ref b), .val (.int (-1 : Int32))]) W1710 d39_37 rfl (by decide) rfl rfl ?_
          refine go_goto (pc' := 14) W1710 d39_40 (by decide) rfl ?_
          refine go_iloadN (pc' := 15) W1710 d39_14 rfl rfl ?_
          refine go_if_lt (pt := 43) (pf := 18) W1710 d39_15 (by decide) rfl rfl (fun c15_1722 => ?_) (fun c15_1722 => ?_)
          · -- pc 15 taken
            refine go_aloadN (pc' := 44) W1710 d39_43 rfl rfl rfl ?_
            refine go_callP (a := t) (kc := K40) (argsL := []) (rest := []) (pc' := 47) W1710 (w268 hw) (w269 hw) (w271 hw) (w270 hw) (w35 hw) (w272 hw) f1712 (rmRW_2 E.l Z a0 hw t y (p &&& (p' ^^^ (-1 : Int64))) (q &&& (q' ^^^ (-1 : Int64))) h1710 n0 z1721 f1712 f1713 f1714 ga nty (A1710.congr (fun j hj => by match j, hj with | 0, _ => rfl | 1, _ => rfl))) (by decide) pd0 rfl rfl rfl (nb rfl) (nb rfl) (nb rfl) (nb rfl) d39_44 rfl ?_
            rintro _ T1723 h1723 ⟨r1723, rfl, K1723, g1723_0, g1723_1, hr1723⟩ W1723
            have f1724 := f1712.keep K1723
            have f1727 := f1715.keep K1723
            have f1728 := f1716.keep K1723 (ninS (Ne.symm n1) nin0)
            have f1729 := f1717.keep K1723 (ninS (Ne.symm n1) nin0)
            have k1730 := k1720.trans K1723 (allS (Or.inl (by simp)) all0)
            have z1731 := Nat.le_trans z1721 K1723.1
            have f1732 := f1718.keep K1723 (ninS (Ne.symm n2) nin0)
            have f1733 := A1710.keep K1723 (ninS (Ne.symm nty) nin0)
            have f1734 := Sta.keepN f1711 K1723 (allS (Ns.exa f1712) all0)
            show Go E _ (Fm E T1723 47 #[.val (.ref t), .val (.ref b), .val (.int (-1 : Int32))] [])
            refine go_aloadN (pc' := 48) W1723 d39_47 rfl rfl rfl ?_
            refine go_callP (a := t) (kc := K12) (argsL := []) (rest := []) (pc' := 51) W1723 (w70 hw) (w71 hw) (w73 hw) (w72 hw) (w35 hw) (w74 hw) f1724 (rm12 E.l Z a0 hw t h1723 n0 z1731 f1734) (by decide) pd0 rfl rfl rfl (nb rfl) (nb rfl) (nb rfl) (nb rfl) d39_48 rfl ?_
            rintro _ T1735 h1735 ⟨rfl, q1735⟩ W1735
            replace W1735 := W1735.sub q1735
            show Go E _ (Fm E T1735 51 #[.val (.ref t), .val (.ref b), .val (.int (-1 : Int32))] [])
            exact go_retV W1735 rfl d39_51 (nb rfl) (nb rfl) (⟨r1723, rfl, k1730, g1723_1, hr1723.trans (by simp [own_an, own_and1, own_0and])⟩)
          · exact absurd c15_1722 (by decide)
def own_res (s z : Int32) (p q p' q' : Int64) : Int32 := if s < z then 0 else if own_an p q p' q' then 1 else 0
theorem own_r1 {s z : Int32} (p q p' q' : Int64) (h : s < z) : 0 = own_res s z p q p' q' := by simp [own_res, h]
theorem own_r2 {s z r : Int32} {p q p' q' : Int64} (h : ¬ s < z) (hr : r = 0 ↔ own_an p q p' q') (e : own_e r = 0) : 0 = own_res s z p q p' q' := by
  have n : ¬ own_an p q p' q' := fun a => by rw [own_e, if_pos (hr.mpr a)] at e; exact absurd e (by decide)
  rw [own_res, if_neg h, if_neg n]
theorem own_r3 {s z r : Int32} {p q p' q' : Int64} (h : ¬ s < z) (hr : r = 0 ↔ own_an p q p' q') (e : ¬ own_e r = 0) : 1 = own_res s z p q p' q' := by
  have n : own_an p q p' q' := hr.mp (Classical.byContradiction fun a => e (by rw [own_e, if_neg a]))
  rw [own_res, if_neg h, if_pos n]
theorem own_an0 (p' q' : Int64) : own_an 0 0 p' q' := ⟨own_0and _, own_0and _⟩
set_option maxRecDepth 65536 in
set_option maxHeartbeats 4000000 in
theorem rmSu_S00 (l : Launch) (Z : State) (a0 : Array Value) (hw : Hw a0 Z) (i : Addr) (z : Int32) (t g r b x xo f : Addr) (s : Int32) (u : Nat) (p' q' : Int64) (y : Addr) (u' : Nat) (p q : Int64) (h0 : Heap) (n0 : Nat) (Z0 : n0 ≤ h0.size) (Ei : Exa Z h0 i "com/example/slotwright/slotwright/EnrolmentInstance") (F1 : Fld Z h0 i "com/example/slotwright/slotwright/EnrolmentInstance" "rooms" "Ljava/util/List;" (.ref t)) (F2 : Fld Z h0 i "com/example/slotwright/slotwright/EnrolmentInstance" "eventFeatures" "Ljava/util/List;" (.ref g)) (Et : Exa Z h0 t "java/util/ImmutableCollections$List12") (Fr_ : Fld Z h0 t "java/util/ImmutableCollections$List12" "e0" "Ljava/lang/Object;" (.ref r)) (Er : Exa Z h0 r "com/example/slotwright/slotwright/EnrolmentInstance$Room") (G0 : Fld Z h0 r "com/example/slotwright/slotwright/EnrolmentInstance$Room" "size" "I" (.int s)) (G1 : Fld Z h0 r "com/example/slotwright/slotwright/EnrolmentInstance$Room" "features" "Ljava/util/BitSet;" (.ref b)) (Bb : own_B Z h0 b x u p' q') (Sa : Sta Z h0 "java/util/BitSet" "$assertionsDisabled" "Z" (.int 1)) (Sx : Sta Z h0 "java/util/ImmutableCollections" "EMPTY" "Ljava/lang/Object;" (.ref xo)) (nr : r ≠ xo) (nf : f ≠ xo) (Eg : Exa Z h0 g "java/util/ImmutableCollections$List12") (Gf : Fld Z h0 g "java/util/ImmutableCollections$List12" "e0" "Ljava/lang/Object;" (.ref f)) (Bf : own_B Z h0 f y u' p q) :
    Ct l Z K34 #[(.ref i), (.int (0 : Int32)), (.int z), (.int (0 : Int32))] h0 n0 (fun v h => v = some (.int (own_res s z p q p' q'))) := by
  refine Ct.of (Ls := #[.val (.ref i), .val (.int (0 : Int32)), .val (.int z), .val (.int (0 : Int32)), .unset, .unset]) (plainFor_of_name (by first | decide +kernel | (simp [plainName, overriddenIn]; done))) (fun m => by first | rfl | (simp [entryFrame, mkF, argsToLocals, Value.category]; done)) ?_
  intro E T W
  refine go_aloadN (pc' := 1) W d34_0 rfl rfl rfl ?_
  refine go_getF (pc' := 4) W (host := "") (Or.inl (w215 hw)) Via.refl F1 d34_1 rfl ?_
  intro T1736 W1736
  refine go_iloadN (pc' := 5) W1736 d34_4 rfl rfl ?_
  refine go_callF (kc := K35) (a := t) (argsL := [(.int (0 : Int32))]) (rest := []) (pc' := 10) W1736 (w230 hw) (w231 hw) (w232 hw) (w233 hw) (w234 hw) (w235 hw) (w236 hw) (w237 hw) (w188 hw) (w238 hw) Et (rmGet_0 E.l Z a0 hw t r  h0 n0 Z0 Fr_) (by decide) pd16 rfl rfl rfl (nb rfl) (nb rfl) (nb rfl) (nb rfl) d34_5 rfl ?_
  rintro _ T1737 h1737 ⟨rfl, q1737⟩ W1737
  replace W1737 := W1737.sub q1737
  show Go E _ (Fm E T1737 10 #[.val (.ref i), .val (.int (0 : Int32)), .val (.int z), .val (.int (0 : Int32)), .unset, .unset] [(.ref r)])
  refine go_castY (pc' := 13) W1737 (w239 hw) (Ins.self Er) d34_10 rfl ?_
  intro T1738 W1738
  refine go_astore (pc' := 15) (l' := #[.val (.ref i), .val (.int (0 : Int32)), .val (.int z), .val (.int (0 : Int32)), .val (.ref r), .unset]) W1738 d34_13 rfl rfl rfl ?_
  refine go_new (pc' := 18) W1738 (w241 hw) (w34 hw) (w35 hw) d34_15 (nb rfl) (nb rfl) rfl ?_
  intro T1739 h1739 b1739 g1739 W1739 E1739 A1739 D1739 M1739
  have ne1740 : i ≠ b1739 := by rw [g1739]; exact Nat.ne_of_lt Ei.lt
  have ne1741 : t ≠ b1739 := by rw [g1739]; exact Nat.ne_of_lt Et.lt
  have ne1742 : r ≠ b1739 := by rw [g1739]; exact Nat.ne_of_lt Er.lt
  have ne1743 : g ≠ b1739 := by rw [g1739]; exact Nat.ne_of_lt Eg.lt
  have ne1744 : f ≠ b1739 := by rw [g1739]; exact Nat.ne_of_lt Bf.1.lt
  have ge1745 : n0 ≤ b1739 := by rw [g1739]; exact Z0
  have old1746 : h0.size ≤ b1739 := by rw [g1739]; exact (Keep.refl h0 []).1
  have ne1747 : b ≠ b1739 := by rw [g1739]; exact Nat.ne_of_lt Bb.1.lt
  have ne1748 : x ≠ b1739 := by rw [g1739]; exact Nat.ne_of_lt Bb.ltx
  have ne1749 : f ≠ b1739 := by rw [g1739]; exact Nat.ne_of_lt Bf.1.lt
  have ne1750 : y ≠ b1739 := by rw [g1739]; exact Nat.ne_of_lt Bf.ltx
  have f1751 := Ei.ext E1739
  have f1752 := F1.ext E1739
  have f1753 := F2.ext E1739
  have f1754 := Et.ext E1739
  have f1755 := Fr_.ext E1739
  have f1756 := Er.ext E1739
  have f1757 := G0.ext E1739
  have f1758 := G1.ext E1739
  have f1759 := Sa.ext E1739
  have f1760 := Sx.ext E1739
  have ob1761 := own_B.keep Bb ((Keep.refl _ []).ext E1739) nin0 nin0
  have f1762 := Eg.ext E1739
  have f1763 := Gf.ext E1739
  have f1764 := Bf.1.ext E1739
  have ob1765 := own_B.keep Bf ((Keep.refl _ []).ext E1739) nin0 nin0
  have k1766 := (Keep.refl h0 []).ext E1739
  have z1767 := Nat.le_trans Z0 E1739.1
  have f1768 : Fld Z h1739 b1739 "java/util/BitSet" "wordsInUse" "I" (.int (0 : Int32)) := D1739 (Or.inl (w41 hw)) (ty := .int) (by decide)
  have f1769 : Fld Z h1739 b1739 "java/util/BitSet" "sizeIsSticky" "Z" (.int (0 : Int32)) := D1739 (Or.inl (w43 hw)) (ty := .boolean) (by decide)
  have f1770 : Fld Z h1739 b1739 "java/util/BitSet" "words" "[J" .null := D1739 (Or.inl (w54 hw)) (ty := (.array .long)) (by decide)
  refine go_dup (pc' := 19) W1739 d34_18 rfl rfl ?_
  refine go_callN (a := b1739) (kc := K6) (argsL := []) (rest := [(.ref b1739)]) (pc' := 22) W1739 (w242 hw) (w37 hw) (w35 hw) (w38 hw) (rm6 E.l Z a0 hw b1739 h1739 n0 z1767 A1739 f1770 f1768 f1769 ge1745) rfl rfl (by decide) pd0 rfl rfl rfl (nb rfl) (nb rfl) (nb rfl) (nb rfl) d34_19 rfl ?_
  rintro _ T1771 h1771 ⟨x1771, rfl, gx1771, so1771, K1771, g1771_0, g1771_1, g1771_2, ax1771⟩ W1771
  have ne1772 : b ≠ x1771 := Nat.ne_of_lt (Nat.lt_of_lt_of_le ob1761.1.lt so1771)
  have ne1773 : x ≠ x1771 := Nat.ne_of_lt (Nat.lt_of_lt_of_le ob1761.ltx so1771)
  have ne1774 : f ≠ x1771 := Nat.ne_of_lt (Nat.lt_of_lt_of_le ob1765.1.lt so1771)
  have ne1775 : y ≠ x1771 := Nat.ne_of_lt (Nat.lt_of_lt_of_le ob1765.ltx so1771)
  have ne1776 : i ≠ x1771 := Nat.ne_of_lt (Nat.lt_of_lt_of_le f1751.lt so1771)
  have ne1777 : t ≠ x1771 := Nat.ne_of_lt (Nat.lt_of_lt_of_le f1754.lt so1771)
  have ne1778 : r ≠ x1771 := Nat.ne_of_lt (Nat.lt_of_lt_of_le f1756.lt so1771)
  have ne1779 : g ≠ x1771 := Nat.ne_of_lt (Nat.lt_of_lt_of_le f1762.lt so1771)
  have ne1780 : f ≠ x1771 := Nat.ne_of_lt (Nat.lt_of_lt_of_le f1764.lt so1771)
  have ne1781 : b1739 ≠ x1771 := Nat.ne_of_lt (Nat.lt_of_lt_of_le A1739.lt so1771)
  have old1782 : h0.size ≤ x1771 := Nat.le_trans k1766.1 so1771
  have f1783 := f1751.keep K1771
  have f1784 := f1752.keep K1771 (ninS ne1740 nin0)
  have f1785 := f1753.keep K1771 (ninS ne1740 nin0)
  have f1786 := f1754.keep K1771
  have f1787 := f1755.keep K1771 (ninS ne1741 nin0)
  have f1788 := f1756.keep K1771
  have f1789 := f1757.keep K1771 (ninS ne1742 nin0)
  have f1790 := f1758.keep K1771 (ninS ne1742 nin0)
  have ob1792 := own_B.keep ob1761 K1771 (ninS ne1747 nin0) (ninS ne1748 nin0)
  have f1793 := f1762.keep K1771
  have f1794 := f1763.keep K1771 (ninS ne1743 nin0)
  have f1795 := f1764.keep K1771
  have ob1797 := own_B.keep ob1765 K1771 (ninS ne1749 nin0) (ninS ne1750 nin0)
  have f1798 := A1739.keep K1771
  have k1802 := k1766.trans K1771 (allS (Or.inr old1746) all0)
  have z1803 := Nat.le_trans z1767 K1771.1
  have f1804 := Sta.keepN f1759 K1771 (allS (Ns.exa A1739) all0)
  have f1805 := Sta.keepN f1760 K1771 (allS (Ns.exa A1739) all0)
  show Go E _ (Fm E T1771 22 #[.val (.ref i), .val (.int (0 : Int32)), .val (.int z), .val (.int (0 : Int32)), .val (.ref r), .unset] [(.ref b1739)])
  refine go_astore (pc' := 24) (l' := #[.val (.ref i), .val (.int (0 : Int32)), .val (.int z), .val (.int (0 : Int32)), .val (.ref r), .val (.ref b1739)]) W1771 d34_22 rfl rfl rfl ?_
  refine go_aloadN (pc' := 25) W1771 d34_24 rfl rfl rfl ?_
  refine go_getF (pc' := 28) W1771 (host := "") (Or.inl (w217 hw)) Via.refl f1785 d34_25 rfl ?_
  intro T1806 W1806
  refine go_callF (kc := K36) (a := g) (argsL := []) (rest := []) (pc' := 33) W1806 (w243 hw) (w244 hw) (w245 hw) (w246 hw) (w247 hw) (w248 hw) (w249 hw) (w237 hw) (w188 hw) (w250 hw) f1793 (rm36 E.l Z a0 hw g h1771 n0 z1803) (by decide) pd12 rfl rfl rfl (nb rfl) (nb rfl) (nb rfl) (nb rfl) d34_28 rfl ?_
  rintro _ T1807 h1807 ⟨rfl, q1807⟩ W1807
  replace W1807 := W1807.sub q1807
  show Go E _ (Fm E T1807 33 #[.val (.ref i), .val (.int (0 : Int32)), .val (.int z), .val (.int (0 : Int32)), .val (.ref r), .val (.ref b1739)] [(.int (0 : Int32))])
  refine go_if_ne (pt := 64) (pf := 36) W1807 d34_33 (by decide) rfl rfl (fun c33_1808 => ?_) (fun c33_1808 => ?_)
  · exact absurd c33_1808 (by decide)
  · -- pc 33 not taken
    refine go_aload (pc' := 38) W1807 d34_36 rfl rfl rfl ?_
    refine go_aloadN (pc' := 39) W1807 d34_38 rfl rfl rfl ?_
    refine go_getF (pc' := 42) W1807 (host := "") (Or.inl (w217 hw)) Via.refl f1785 d34_39 rfl ?_
    intro T1809 W1809
    refine go_iloadN (pc' := 43) W1809 d34_42 rfl rfl ?_
    refine go_callF (kc := K35) (a := g) (argsL := [(.int (0 : Int32))]) (rest := [(.ref b1739)]) (pc' := 48) W1809 (w230 hw) (w231 hw) (w232 hw) (w233 hw) (w234 hw) (w235 hw) (w236 hw) (w237 hw) (w188 hw) (w238 hw) f1793 (rmGet_0 E.l Z a0 hw g f  h1771 n0 z1803 f1794) (by decide) pd16 rfl rfl rfl (nb rfl) (nb rfl) (nb rfl) (nb rfl) d34_43 rfl ?_
    rintro _ T1810 h1810 ⟨rfl, q1810⟩ W1810
    replace W1810 := W1810.sub q1810
    show Go E _ (Fm E T1810 48 #[.val (.ref i), .val (.int (0 : Int32)), .val (.int z), .val (.int (0 : Int32)), .val (.ref r), .val (.ref b1739)] [(.ref f), (.ref b1739)])
    refine go_castY (pc' := 51) W1810 (w241 hw) (Ins.self f1795) d34_48 rfl ?_
    intro T1811 W1811
    refine go_callV (a := b1739) (kc := K37) (argsL := [(.ref f)]) (rest := []) (pc' := 54) W1811 (w252 hw) (w253 hw) (nf_sel W1811 (w255 hw)) (w255 hw) (w254 hw) (w35 hw) (w256 hw) f1798 (rm37 E.l Z a0 hw b1739 f x1771 y u' p q h1771 n0 z1803 f1798 g1771_0 g1771_1 g1771_2 ge1745 gx1771 ax1771 ob1797 (Ne.symm ne1749) (Ne.symm ne1750) (Ne.symm ne1780) (Ne.symm ne1775) ne1781 f1804) (by decide) pd17 rfl rfl rfl (nb rfl) (nb rfl) (nb rfl) (nb rfl) d34_51 rfl ?_
    rintro _ T1812 h1812 ⟨z1812, rfl, gz1812, hz1812, K1812, bz1812⟩ W1812
    have ne1813 : b ≠ z1812 := fun q => hz1812.elim (fun r => ne1772 (q.trans r)) (fun r => Nat.ne_of_lt (Nat.lt_of_lt_of_le ob1792.1.lt r) q)
    have ne1814 : x ≠ z1812 := fun q => hz1812.elim (fun r => ne1773 (q.trans r)) (fun r => Nat.ne_of_lt (Nat.lt_of_lt_of_le ob1792.ltx r) q)
    have ne1815 : f ≠ z1812 := fun q => hz1812.elim (fun r => ne1780 (q.trans r)) (fun r => Nat.ne_of_lt (Nat.lt_of_lt_of_le ob1797.1.lt r) q)
    have ne1816 : y ≠ z1812 := fun q => hz1812.elim (fun r => ne1775 (q.trans r)) (fun r => Nat.ne_of_lt (Nat.lt_of_lt_of_le ob1797.ltx r) q)
    have ne1817 : b1739 ≠ z1812 := fun q => hz1812.elim (fun r => ne1781 (q.trans r)) (fun r => Nat.ne_of_lt (Nat.lt_of_lt_of_le f1798.lt r) q)
    have ne1818 : r ≠ z1812 := fun q => hz1812.elim (fun r => ne1778 (q.trans r)) (fun r => Nat.ne_of_lt (Nat.lt_of_lt_of_le f1788.lt r) q)
    have old1819 : h0.size ≤ z1812 := hz1812.elim (fun r => by rw [r]; exact old1782) (fun r => Nat.le_trans k1802.1 r)
    have f1820 := f1783.keep K1812
    have f1821 := f1784.keep K1812 (ninS ne1740 (ninS ne1776 nin0))
    have f1822 := f1785.keep K1812 (ninS ne1740 (ninS ne1776 nin0))
    have f1823 := f1786.keep K1812
    have f1824 := f1787.keep K1812 (ninS ne1741 (ninS ne1777 nin0))
    have f1825 := f1788.keep K1812
    have f1826 := f1789.keep K1812 (ninS ne1742 (ninS ne1778 nin0))
    have f1827 := f1790.keep K1812 (ninS ne1742 (ninS ne1778 nin0))
    have ob1829 := own_B.keep ob1792 K1812 (ninS ne1747 (ninS ne1772 nin0)) (ninS ne1748 (ninS ne1773 nin0))
    have f1830 := f1793.keep K1812
    have f1831 := f1794.keep K1812 (ninS ne1743 (ninS ne1779 nin0))
    have f1832 := f1795.keep K1812
    have ob1834 := own_B.keep ob1797 K1812 (ninS ne1749 (ninS ne1780 nin0)) (ninS ne1750 (ninS ne1775 nin0))
    have f1835 := f1798.keep K1812
    have k1839 := k1802.trans K1812 (allS (Or.inr old1746) (allS (Or.inr old1782) all0))
    have z1840 := Nat.le_trans z1803 K1812.1
    have f1841 := Sta.keepN f1804 K1812 (allS (Ns.exa f1798) (allS (Ns.af ax1771) all0))
    have f1842 := Sta.keepN f1805 K1812 (allS (Ns.exa f1798) (allS (Ns.af ax1771) all0))
    show Go E _ (Fm E T1812 54 #[.val (.ref i), .val (.int (0 : Int32)), .val (.int z), .val (.int (0 : Int32)), .val (.ref r), .val (.ref b1739)] [])
    refine go_aload (pc' := 56) W1812 d34_54 rfl rfl rfl ?_
    refine go_aload (pc' := 58) W1812 d34_56 rfl rfl rfl ?_
    refine go_callV (a := r) (kc := K38) (argsL := []) (rest := [(.ref b1739)]) (pc' := 61) W1812 (w258 hw) (w259 hw) (nf_sel W1812 (w261 hw)) (w261 hw) (w260 hw) (w28 hw) (w262 hw) f1825 (rm38 E.l Z a0 hw r b h1812 n0 z1840 f1827) (by decide) pd18 rfl rfl rfl (nb rfl) (nb rfl) (nb rfl) (nb rfl) d34_58 rfl ?_
    rintro _ T1843 h1843 ⟨rfl, q1843⟩ W1843
    replace W1843 := W1843.sub q1843
    show Go E _ (Fm E T1843 61 #[.val (.ref i), .val (.int (0 : Int32)), .val (.int z), .val (.int (0 : Int32)), .val (.ref r), .val (.ref b1739)] [(.ref b), (.ref b1739)])
    refine go_callV (a := b1739) (kc := K39) (argsL := [(.ref b)]) (rest := []) (pc' := 64) W1843 (w263 hw) (w264 hw) (nf_sel W1843 (w266 hw)) (w266 hw) (w265 hw) (w35 hw) (w267 hw) f1835 (rm39 E.l Z a0 hw b1739 b z1812 x u' u p q p' q' h1812 n0 z1840 bz1812 ob1829 ge1745 gz1812 (Ne.symm ne1747) (Ne.symm ne1748) (Ne.symm ne1813) (Ne.symm ne1814) ne1817 f1841) (by decide) pd17 rfl rfl rfl (nb rfl) (nb rfl) (nb rfl) (nb rfl) d34_61 rfl ?_
    rintro _ T1844 h1844 ⟨r1844, rfl, K1844, fu1844, hr1844⟩ W1844
    have f1845 := f1820.keep K1844
    have f1846 := f1823.keep K1844
    have f1847 := f1825.keep K1844
    have f1848 := f1826.keep K1844 (ninS ne1742 (ninS ne1818 nin0))
    have f1849 := f1827.keep K1844 (ninS ne1742 (ninS ne1818 nin0))
    have f1850 := f1830.keep K1844
    have f1851 := f1832.keep K1844
    have f1852 := f1835.keep K1844
    have k1853 := k1839.trans K1844 (allS (Or.inr old1746) (allS (Or.inr old1819) all0))
    have z1854 := Nat.le_trans z1840 K1844.1
    show Go E _ (Fm E T1844 64 #[.val (.ref i), .val (.int (0 : Int32)), .val (.int z), .val (.int (0 : Int32)), .val (.ref r), .val (.ref b1739)] [])
    refine go_aload (pc' := 66) W1844 d34_64 rfl rfl rfl ?_
    refine go_callV (a := r) (kc := K41) (argsL := []) (rest := []) (pc' := 69) W1844 (w273 hw) (w274 hw) (nf_sel W1844 (w276 hw)) (w276 hw) (w275 hw) (w28 hw) (w277 hw) f1847 (rm41 E.l Z a0 hw r s h1844 n0 z1854 f1848) (by decide) pd19 rfl rfl rfl (nb rfl) (nb rfl) (nb rfl) (nb rfl) d34_66 rfl ?_
    rintro _ T1855 h1855 ⟨rfl, q1855⟩ W1855
    replace W1855 := W1855.sub q1855
    show Go E _ (Fm E T1855 69 #[.val (.ref i), .val (.int (0 : Int32)), .val (.int z), .val (.int (0 : Int32)), .val (.ref r), .val (.ref b1739)] [(.int s)])
    refine go_iloadN (pc' := 70) W1855 d34_69 rfl rfl ?_
    refine go_icmp_lt (pt := 85) (pf := 73) W1855 d34_70 (by decide) rfl rfl (fun c70_1856 => ?_) (fun c70_1856 => ?_)
    · -- pc 70 taken
      refine go_iconst (pc' := 86) (z := 0) W1855 d34_85 rfl rfl ?_
      exact go_retI W1855 (t := .boolean) rfl (by simp) rfl d34_86 (nb rfl) (nb rfl) (congrArg (fun z => some (Value.int z)) (own_r1 _ _ _ _ c70_1856))
    · -- pc 70 not taken
      refine go_aload (pc' := 75) W1855 d34_73 rfl rfl rfl ?_
      refine go_callV (a := b1739) (kc := K43) (argsL := []) (rest := []) (pc' := 78) W1855 (w282 hw) (w283 hw) (nf_sel W1855 (w285 hw)) (w285 hw) (w284 hw) (w35 hw) (w286 hw) f1852 (rm43 E.l Z a0 hw b1739 r1844 h1844 n0 z1854 fu1844) (by decide) pd12 rfl rfl rfl (nb rfl) (nb rfl) (nb rfl) (nb rfl) d34_75 rfl ?_
      rintro _ T1857 h1857 ⟨rfl, q1857⟩ W1857
      replace W1857 := W1857.sub q1857
      show Go E _ (Fm E T1857 78 #[.val (.ref i), .val (.int (0 : Int32)), .val (.int z), .val (.int (0 : Int32)), .val (.ref r), .val (.ref b1739)] [(.int (own_e r1844))])
      refine go_if_eq (pt := 85) (pf := 81) W1857 d34_78 (by decide) rfl rfl (fun c78_1858 => ?_) (fun c78_1858 => ?_)
      · -- pc 78 taken
        refine go_iconst (pc' := 86) (z := 0) W1857 d34_85 rfl rfl ?_
        exact go_retI W1857 (t := .boolean) rfl (by simp) rfl d34_86 (nb rfl) (nb rfl) (congrArg (fun z => some (Value.int z)) (own_r2 c70_1856 hr1844 c78_1858))
      · -- pc 78 not taken
        refine go_iconst (pc' := 82) (z := 1) W1857 d34_81 rfl rfl ?_
        refine go_goto (pc' := 86) W1857 d34_82 (by decide) rfl ?_
        exact go_retI W1857 (t := .boolean) rfl (by simp) rfl d34_86 (nb rfl) (nb rfl) (congrArg (fun z => some (Value.int z)) (own_r3 c70_1856 hr1844 c78_1858))
set_option maxRecDepth 65536 in
set_option maxHeartbeats 4000000 in
theorem rmSu_S01 (l : Launch) (Z : State) (a0 : Array Value) (hw : Hw a0 Z) (i : Addr) (z : Int32) (t g r b x xo f : Addr) (s : Int32) (u : Nat) (p' q' : Int64) (y : Addr) (u' : Nat) (p q : Int64) (h0 : Heap) (n0 : Nat) (Z0 : n0 ≤ h0.size) (Ei : Exa Z h0 i "com/example/slotwright/slotwright/EnrolmentInstance") (F1 : Fld Z h0 i "com/example/slotwright/slotwright/EnrolmentInstance" "rooms" "Ljava/util/List;" (.ref t)) (F2 : Fld Z h0 i "com/example/slotwright/slotwright/EnrolmentInstance" "eventFeatures" "Ljava/util/List;" (.ref g)) (Et : Exa Z h0 t "java/util/ImmutableCollections$List12") (Fr_ : Fld Z h0 t "java/util/ImmutableCollections$List12" "e1" "Ljava/lang/Object;" (.ref r)) (Er : Exa Z h0 r "com/example/slotwright/slotwright/EnrolmentInstance$Room") (G0 : Fld Z h0 r "com/example/slotwright/slotwright/EnrolmentInstance$Room" "size" "I" (.int s)) (G1 : Fld Z h0 r "com/example/slotwright/slotwright/EnrolmentInstance$Room" "features" "Ljava/util/BitSet;" (.ref b)) (Bb : own_B Z h0 b x u p' q') (Sa : Sta Z h0 "java/util/BitSet" "$assertionsDisabled" "Z" (.int 1)) (Sx : Sta Z h0 "java/util/ImmutableCollections" "EMPTY" "Ljava/lang/Object;" (.ref xo)) (nr : r ≠ xo) (nf : f ≠ xo) (Eg : Exa Z h0 g "java/util/ImmutableCollections$List12") (Gf : Fld Z h0 g "java/util/ImmutableCollections$List12" "e0" "Ljava/lang/Object;" (.ref f)) (Bf : own_B Z h0 f y u' p q) :
    Ct l Z K34 #[(.ref i), (.int (0 : Int32)), (.int z), (.int (1 : Int32))] h0 n0 (fun v h => v = some (.int (own_res s z p q p' q'))) := by
  refine Ct.of (Ls := #[.val (.ref i), .val (.int (0 : Int32)), .val (.int z), .val (.int (1 : Int32)), .unset, .unset]) (plainFor_of_name (by first | decide +kernel | (simp [plainName, overriddenIn]; done))) (fun m => by first | rfl | (simp [entryFrame, mkF, argsToLocals, Value.category]; done)) ?_
  intro E T W
  refine go_aloadN (pc' := 1) W d34_0 rfl rfl rfl ?_
  refine go_getF (pc' := 4) W (host := "") (Or.inl (w215 hw)) Via.refl F1 d34_1 rfl ?_
  intro T1859 W1859
  refine go_iloadN (pc' := 5) W1859 d34_4 rfl rfl ?_
  refine go_callF (kc := K35) (a := t) (argsL := [(.int (1 : Int32))]) (rest := []) (pc' := 10) W1859 (w230 hw) (w231 hw) (w232 hw) (w233 hw) (w234 hw) (w235 hw) (w236 hw) (w237 hw) (w188 hw) (w238 hw) Et (rmGet_1 E.l Z a0 hw t r xo h0 n0 Z0 Fr_ Sx nr) (by decide) pd16 rfl rfl rfl (nb rfl) (nb rfl) (nb rfl) (nb rfl) d34_5 rfl ?_
  rintro _ T1860 h1860 ⟨rfl, q1860⟩ W1860
  replace W1860 := W1860.sub q1860
  show Go E _ (Fm E T1860 10 #[.val (.ref i), .val (.int (0 : Int32)), .val (.int z), .val (.int (1 : Int32)), .unset, .unset] [(.ref r)])
  refine go_castY (pc' := 13) W1860 (w239 hw) (Ins.self Er) d34_10 rfl ?_
  intro T1861 W1861
  refine go_astore (pc' := 15) (l' := #[.val (.ref i), .val (.int (0 : Int32)), .val (.int z), .val (.int (1 : Int32)), .val (.ref r), .unset]) W1861 d34_13 rfl rfl rfl ?_
  refine go_new (pc' := 18) W1861 (w241 hw) (w34 hw) (w35 hw) d34_15 (nb rfl) (nb rfl) rfl ?_
  intro T1862 h1862 b1862 g1862 W1862 E1862 A1862 D1862 M1862
  have ne1863 : i ≠ b1862 := by rw [g1862]; exact Nat.ne_of_lt Ei.lt
  have ne1864 : t ≠ b1862 := by rw [g1862]; exact Nat.ne_of_lt Et.lt
  have ne1865 : r ≠ b1862 := by rw [g1862]; exact Nat.ne_of_lt Er.lt
  have ne1866 : g ≠ b1862 := by rw [g1862]; exact Nat.ne_of_lt Eg.lt
  have ne1867 : f ≠ b1862 := by rw [g1862]; exact Nat.ne_of_lt Bf.1.lt
  have ge1868 : n0 ≤ b1862 := by rw [g1862]; exact Z0
  have old1869 : h0.size ≤ b1862 := by rw [g1862]; exact (Keep.refl h0 []).1
  have ne1870 : b ≠ b1862 := by rw [g1862]; exact Nat.ne_of_lt Bb.1.lt
  have ne1871 : x ≠ b1862 := by rw [g1862]; exact Nat.ne_of_lt Bb.ltx
  have ne1872 : f ≠ b1862 := by rw [g1862]; exact Nat.ne_of_lt Bf.1.lt
  have ne1873 : y ≠ b1862 := by rw [g1862]; exact Nat.ne_of_lt Bf.ltx
  have f1874 := Ei.ext E1862
  have f1875 := F1.ext E1862
  have f1876 := F2.ext E1862
  have f1877 := Et.ext E1862
  have f1878 := Fr_.ext E1862
  have f1879 := Er.ext E1862
  have f1880 := G0.ext E1862
  have f1881 := G1.ext E1862
  have f1882 := Sa.ext E1862
  have f1883 := Sx.ext E1862
  have ob1884 := own_B.keep Bb ((Keep.refl _ []).ext E1862) nin0 nin0
  have f1885 := Eg.ext E1862
  have f1886 := Gf.ext E1862
  have f1887 := Bf.1.ext E1862
  have ob1888 := own_B.keep Bf ((Keep.refl _ []).ext E1862) nin0 nin0
  have k1889 := (Keep.refl h0 []).ext E1862
  have z1890 := Nat.le_trans Z0 E1862.1
  have f1891 : Fld Z h1862 b1862 "java/util/BitSet" "wordsInUse" "I" (.int (0 : Int32)) := D1862 (Or.inl (w41 hw)) (ty := .int) (by decide)
  have f1892 : Fld Z h1862 b1862 "java/util/BitSet" "sizeIsSticky" "Z" (.int (0 : Int32)) := D1862 (Or.inl (w43 hw)) (ty := .boolean) (by decide)
  have f1893 : Fld Z h1862 b1862 "java/util/BitSet" "words" "[J" .null := D1862 (Or.inl (w54 hw)) (ty := (.array .long)) (by decide)
  refine go_dup (pc' := 19) W1862 d34_18 rfl rfl ?_
  refine go_callN (a := b1862) (kc := K6) (argsL := []) (rest := [(.ref b1862)]) (pc' := 22) W1862 (w242 hw) (w37 hw) (w35 hw) (w38 hw) (rm6 E.l Z a0 hw b1862 h1862 n0 z1890 A1862 f1893 f1891 f1892 ge1868) rfl rfl (by decide) pd0 rfl rfl rfl (nb rfl) (nb rfl) (nb rfl) (nb rfl) d34_19 rfl ?_
  rintro _ T1894 h1894 ⟨x1894, rfl, gx1894, so1894, K1894, g1894_0, g1894_1, g1894_2, ax1894⟩ W1894
  have ne1895 : b ≠ x1894 := Nat.ne_of_lt (Nat.lt_of_lt_of_le ob1884.1.lt so1894)
  have ne1896 : x ≠ x1894 := Nat.ne_of_lt (Nat.lt_of_lt_of_le ob1884.ltx so1894)
  have ne1897 : f ≠ x1894 := Nat.ne_of_lt (Nat.lt_of_lt_of_le ob1888.1.lt so1894)
  have ne1898 : y ≠ x1894 := Nat.ne_of_lt (Nat.lt_of_lt_of_le ob1888.ltx so1894)
  have ne1899 : i ≠ x1894 := Nat.ne_of_lt (Nat.lt_of_lt_of_le f1874.lt so1894)
  have ne1900 : t ≠ x1894 := Nat.ne_of_lt (Nat.lt_of_lt_of_le f1877.lt so1894)
  have ne1901 : r ≠ x1894 := Nat.ne_of_lt (Nat.lt_of_lt_of_le f1879.lt so1894)
  have ne1902 : g ≠ x1894 := Nat.ne_of_lt (Nat.lt_of_lt_of_le f1885.lt so1894)
  have ne1903 : f ≠ x1894 := Nat.ne_of_lt (Nat.lt_of_lt_of_le f1887.lt so1894)
  have ne1904 : b1862 ≠ x1894 := Nat.ne_of_lt (Nat.lt_of_lt_of_le A1862.lt so1894)
  have old1905 : h0.size ≤ x1894 := Nat.le_trans k1889.1 so1894
  have f1906 := f1874.keep K1894
  have f1907 := f1875.keep K1894 (ninS ne1863 nin0)
  have f1908 := f1876.keep K1894 (ninS ne1863 nin0)
  have f1909 := f1877.keep K1894
  have f1910 := f1878.keep K1894 (ninS ne1864 nin0)
  have f1911 := f1879.keep K1894
  have f1912 := f1880.keep K1894 (ninS ne1865 nin0)
  have f1913 := f1881.keep K1894 (ninS ne1865 nin0)
  have ob1915 := own_B.keep ob1884 K1894 (ninS ne1870 nin0) (ninS ne1871 nin0)
  have f1916 := f1885.keep K1894
  have f1917 := f1886.keep K1894 (ninS ne1866 nin0)
  have f1918 := f1887.keep K1894
  have ob1920 := own_B.keep ob1888 K1894 (ninS ne1872 nin0) (ninS ne1873 nin0)
  have f1921 := A1862.keep K1894
  have k1925 := k1889.trans K1894 (allS (Or.inr old1869) all0)
  have z1926 := Nat.le_trans z1890 K1894.1
  have f1927 := Sta.keepN f1882 K1894 (allS (Ns.exa A1862) all0)
  have f1928 := Sta.keepN f1883 K1894 (allS (Ns.exa A1862) all0)
  show Go E _ (Fm E T1894 22 #[.val (.ref i), .val (.int (0 : Int32)), .val (.int z), .val (.int (1 : Int32)), .val (.ref r), .unset] [(.ref b1862)])
  refine go_astore (pc' := 24) (l' := #[.val (.ref i), .val (.int (0 : Int32)), .val (.int z), .val (.int (1 : Int32)), .val (.ref r), .val (.ref b1862)]) W1894 d34_22 rfl rfl rfl ?_
  refine go_aloadN (pc' := 25) W1894 d34_24 rfl rfl rfl ?_
  refine go_getF (pc' := 28) W1894 (host := "") (Or.inl (w217 hw)) Via.refl f1908 d34_25 rfl ?_
  intro T1929 W1929
  refine go_callF (kc := K36) (a := g) (argsL := []) (rest := []) (pc' := 33) W1929 (w243 hw) (w244 hw) (w245 hw) (w246 hw) (w247 hw) (w248 hw) (w249 hw) (w237 hw) (w188 hw) (w250 hw) f1916 (rm36 E.l Z a0 hw g h1894 n0 z1926) (by decide) pd12 rfl rfl rfl (nb rfl) (nb rfl) (nb rfl) (nb rfl) d34_28 rfl ?_
  rintro _ T1930 h1930 ⟨rfl, q1930⟩ W1930
  replace W1930 := W1930.sub q1930
  show Go E _ (Fm E T1930 33 #[.val (.ref i), .val (.int (0 : Int32)), .val (.int z), .val (.int (1 : Int32)), .val (.ref r), .val (.ref b1862)] [(.int (0 : Int32))])
  refine go_if_ne (pt := 64) (pf := 36) W1930 d34_33 (by decide) rfl rfl (fun c33_1931 => ?_) (fun c33_1931 => ?_)
  · exact absurd c33_1931 (by decide)
  · -- pc 33 not taken
    refine go_aload (pc' := 38) W1930 d34_36 rfl rfl rfl ?_
    refine go_aloadN (pc' := 39) W1930 d34_38 rfl rfl rfl ?_
    refine go_getF (pc' := 42) W1930 (host := "") (Or.inl (w217 hw)) Via.refl f1908 d34_39 rfl ?_
    intro T1932 W1932
    refine go_iloadN (pc' := 43) W1932 d34_42 rfl rfl ?_
    refine go_callF (kc := K35) (a := g) (argsL := [(.int (0 : Int32))]) (rest := [(.ref b1862)]) (pc' := 48) W1932 (w230 hw) (w231 hw) (w232 hw) (w233 hw) (w234 hw) (w235 hw) (w236 hw) (w237 hw) (w188 hw) (w238 hw) f1916 (rmGet_0 E.l Z a0 hw g f  h1894 n0 z1926 f1917) (by decide) pd16 rfl rfl rfl (nb rfl) (nb rfl) (nb rfl) (nb rfl) d34_43 rfl ?_
    rintro _ T1933 h1933 ⟨rfl, q1933⟩ W1933
    replace W1933 := W1933.sub q1933
    show Go E _ (Fm E T1933 48 #[.val (.ref i), .val (.int (0 : Int32)), .val (.int z), .val (.int (1 : Int32)), .val (.ref r), .val (.ref b1862)] [(.ref f), (.ref b1862)])
    refine go_castY (pc' := 51) W1933 (w241 hw) (Ins.self f1918) d34_48 rfl ?_
    intro T1934 W1934
    refine go_callV (a := b1862) (kc := K37) (argsL := [(.ref f)]) (rest := []) (pc' := 54) W1934 (w252 hw) (w253 hw) (nf_sel W1934 (w255 hw)) (w255 hw) (w254 hw) (w35 hw) (w256 hw) f1921 (rm37 E.l Z a0 hw b1862 f x1894 y u' p q h1894 n0 z1926 f1921 g1894_0 g1894_1 g1894_2 ge1868 gx1894 ax1894 ob1920 (Ne.symm ne1872) (Ne.symm ne1873) (Ne.symm ne1903) (Ne.symm ne1898) ne1904 f1927) (by decide) pd17 rfl rfl rfl (nb rfl) (nb rfl) (nb rfl) (nb rfl) d34_51 rfl ?_
    rintro _ T1935 h1935 ⟨z1935, rfl, gz1935, hz1935, K1935, bz1935⟩ W1935
    have ne1936 : b ≠ z1935 := fun q => hz1935.elim (fun r => ne1895 (q.trans r)) (fun r => Nat.ne_of_lt (Nat.lt_of_lt_of_le ob1915.1.lt r) q)
    have ne1937 : x ≠ z1935 := fun q => hz1935.elim (fun r => ne1896 (q.trans r)) (fun r => Nat.ne_of_lt (Nat.lt_of_lt_of_le ob1915.ltx r) q)
    have ne1938 : f ≠ z1935 := fun q => hz1935.elim (fun r => ne1903 (q.trans r)) (fun r => Nat.ne_of_lt (Nat.lt_of_lt_of_le ob1920.1.lt r) q)
    have ne1939 : y ≠ z1935 := fun q => hz1935.elim (fun r => ne1898 (q.trans r)) (fun r => Nat.ne_of_lt (Nat.lt_of_lt_of_le ob1920.ltx r) q)
    have ne1940 : b1862 ≠ z1935 := fun q => hz1935.elim (fun r => ne1904 (q.trans r)) (fun r => Nat.ne_of_lt (Nat.lt_of_lt_of_le f1921.lt r) q)
    have ne1941 : r ≠ z1935 := fun q => hz1935.elim (fun r => ne1901 (q.trans r)) (fun r => Nat.ne_of_lt (Nat.lt_of_lt_of_le f1911.lt r) q)
    have old1942 : h0.size ≤ z1935 := hz1935.elim (fun r => by rw [r]; exact old1905) (fun r => Nat.le_trans k1925.1 r)
    have f1943 := f1906.keep K1935
    have f1944 := f1907.keep K1935 (ninS ne1863 (ninS ne1899 nin0))
    have f1945 := f1908.keep K1935 (ninS ne1863 (ninS ne1899 nin0))
    have f1946 := f1909.keep K1935
    have f1947 := f1910.keep K1935 (ninS ne1864 (ninS ne1900 nin0))
    have f1948 := f1911.keep K1935
    have f1949 := f1912.keep K1935 (ninS ne1865 (ninS ne1901 nin0))
    have f1950 := f1913.keep K1935 (ninS ne1865 (ninS ne1901 nin0))
    have ob1952 := own_B.keep ob1915 K1935 (ninS ne1870 (ninS ne1895 nin0)) (ninS ne1871 (ninS ne1896 nin0))
    have f1953 := f1916.keep K1935
    have f1954 := f1917.keep K1935 (ninS ne1866 (ninS ne1902 nin0))
    have f1955 := f1918.keep K1935
    have ob1957 := own_B.keep ob1920 K1935 (ninS ne1872 (ninS ne1903 nin0)) (ninS ne1873 (ninS ne1898 nin0))
    have f1958 := f1921.keep K1935
    have k1962 := k1925.trans K1935 (allS (Or.inr old1869) (allS (Or.inr old1905) all0))
    have z1963 := Nat.le_trans z1926 K1935.1
    have f1964 := Sta.keepN f1927 K1935 (allS (Ns.exa f1921) (allS (Ns.af ax1894) all0))
    have f1965 := Sta.keepN f1928 K1935 (allS (Ns.exa f1921) (allS (Ns.af ax1894) all0))
    show Go E _ (Fm E T1935 54 #[.val (.ref i), .val (.int (0 : Int32)), .val (.int z), .val (.int (1 : Int32)), .val (.ref r), .val (.ref b1862)] [])
    refine go_aload (pc' := 56) W1935 d34_54 rfl rfl rfl ?_
    refine go_aload (pc' := 58) W1935 d34_56 rfl rfl rfl ?_
    refine go_callV (a := r) (kc := K38) (argsL := []) (rest := [(.ref b1862)]) (pc' := 61) W1935 (w258 hw) (w259 hw) (nf_sel W1935 (w261 hw)) (w261 hw) (w260 hw) (w28 hw) (w262 hw) f1948 (rm38 E.l Z a0 hw r b h1935 n0 z1963 f1950) (by decide) pd18 rfl rfl rfl (nb rfl) (nb rfl) (nb rfl) (nb rfl) d34_58 rfl ?_
    rintro _ T1966 h1966 ⟨rfl, q1966⟩ W1966
    replace W1966 := W1966.sub q1966
    show Go E _ (Fm E T1966 61 #[.val (.ref i), .val (.int (0 : Int32)), .val (.int z), .val (.int (1 : Int32)), .val (.ref r), .val (.ref b1862)] [(.ref b), (.ref b1862)])
    refine go_callV (a := b1862) (kc := K39) (argsL := [(.ref b)]) (rest := []) (pc' := 64) W1966 (w263 hw) (w264 hw) (nf_sel W1966 (w266 hw)) (w266 hw) (w265 hw) (w35 hw) (w267 hw) f1958 (rm39 E.l Z a0 hw b1862 b z1935 x u' u p q p' q' h1935 n0 z1963 bz1935 ob1952 ge1868 gz1935 (Ne.symm ne1870) (Ne.symm ne1871) (Ne.symm ne1936) (Ne.symm ne1937) ne1940 f1964) (by decide) pd17 rfl rfl rfl (nb rfl) (nb rfl) (nb rfl) (nb rfl) d34_61 rfl ?_
    rintro _ T1967 h1967 ⟨r1967, rfl, K1967, fu1967, hr1967⟩ W1967
    have f1968 := f1943.keep K1967
    have f1969 := f1946.keep K1967
    have f1970 := f1948.keep K1967
    have f1971 := f1949.keep K1967 (ninS ne1865 (ninS ne1941 nin0))
    have f1972 := f1950.keep K1967 (ninS ne1865 (ninS ne1941 nin0))
    have f1973 := f1953.keep K1967
    have f1974 := f1955.keep K1967
    have f1975 := f1958.keep K1967
    have k1976 := k1962.trans K1967 (allS (Or.inr old1869) (allS (Or.inr old1942) all0))
    have z1977 := Nat.le_trans z1963 K1967.1
    show Go E _ (Fm E T1967 64 #[.val (.ref i), .val (.int (0 : Int32)), .val (.int z), .val (.int (1 : Int32)), .val (.ref r), .val (.ref b1862)] [])
    refine go_aload (pc' := 66) W1967 d34_64 rfl rfl rfl ?_
    refine go_callV (a := r) (kc := K41) (argsL := []) (rest := []) (pc' := 69) W1967 (w273 hw) (w274 hw) (nf_sel W1967 (w276 hw)) (w276 hw) (w275 hw) (w28 hw) (w277 hw) f1970 (rm41 E.l Z a0 hw r s h1967 n0 z1977 f1971) (by decide) pd19 rfl rfl rfl (nb rfl) (nb rfl) (nb rfl) (nb rfl) d34_66 rfl ?_
    rintro _ T1978 h1978 ⟨rfl, q1978⟩ W1978
    replace W1978 := W1978.sub q1978
    show Go E _ (Fm E T1978 69 #[.val (.ref i), .val (.int (0 : Int32)), .val (.int z), .val (.int (1 : Int32)), .val (.ref r), .val (.ref b1862)] [(.int s)])
    refine go_iloadN (pc' := 70) W1978 d34_69 rfl rfl ?_
    refine go_icmp_lt (pt := 85) (pf := 73) W1978 d34_70 (by decide) rfl rfl (fun c70_1979 => ?_) (fun c70_1979 => ?_)
    · -- pc 70 taken
      refine go_iconst (pc' := 86) (z := 0) W1978 d34_85 rfl rfl ?_
      exact go_retI W1978 (t := .boolean) rfl (by simp) rfl d34_86 (nb rfl) (nb rfl) (congrArg (fun z => some (Value.int z)) (own_r1 _ _ _ _ c70_1979))
    · -- pc 70 not taken
      refine go_aload (pc' := 75) W1978 d34_73 rfl rfl rfl ?_
      refine go_callV (a := b1862) (kc := K43) (argsL := []) (rest := []) (pc' := 78) W1978 (w282 hw) (w283 hw) (nf_sel W1978 (w285 hw)) (w285 hw) (w284 hw) (w35 hw) (w286 hw) f1975 (rm43 E.l Z a0 hw b1862 r1967 h1967 n0 z1977 fu1967) (by decide) pd12 rfl rfl rfl (nb rfl) (nb rfl) (nb rfl) (nb rfl) d34_75 rfl ?_
      rintro _ T1980 h1980 ⟨rfl, q1980⟩ W1980
      replace W1980 := W1980.sub q1980
      show Go E _ (Fm E T1980 78 #[.val (.ref i), .val (.int (0 : Int32)), .val (.int z), .val (.int (1 : Int32)), .val (.ref r), .val (.ref b1862)] [(.int (own_e r1967))])
      refine go_if_eq (pt := 85) (pf := 81) W1980 d34_78 (by decide) rfl rfl (fun c78_1981 => ?_) (fun c78_1981 => ?_)
      · -- pc 78 taken
        refine go_iconst (pc' := 86) (z := 0) W1980 d34_85 rfl rfl ?_
        exact go_retI W1980 (t := .boolean) rfl (by simp) rfl d34_86 (nb rfl) (nb rfl) (congrArg (fun z => some (Value.int z)) (own_r2 c70_1979 hr1967 c78_1981))
      · -- pc 78 not taken
        refine go_iconst (pc' := 82) (z := 1) W1980 d34_81 rfl rfl ?_
        refine go_goto (pc' := 86) W1980 d34_82 (by decide) rfl ?_
        exact go_retI W1980 (t := .boolean) rfl (by simp) rfl d34_86 (nb rfl) (nb rfl) (congrArg (fun z => some (Value.int z)) (own_r3 c70_1979 hr1967 c78_1981))
set_option maxRecDepth 65536 in
set_option maxHeartbeats 4000000 in
theorem rmSu_S10 (l : Launch) (Z : State) (a0 : Array Value) (hw : Hw a0 Z) (i : Addr) (z : Int32) (t g r b x xo f : Addr) (s : Int32) (u : Nat) (p' q' : Int64) (y : Addr) (u' : Nat) (p q : Int64) (h0 : Heap) (n0 : Nat) (Z0 : n0 ≤ h0.size) (Ei : Exa Z h0 i "com/example/slotwright/slotwright/EnrolmentInstance") (F1 : Fld Z h0 i "com/example/slotwright/slotwright/EnrolmentInstance" "rooms" "Ljava/util/List;" (.ref t)) (F2 : Fld Z h0 i "com/example/slotwright/slotwright/EnrolmentInstance" "eventFeatures" "Ljava/util/List;" (.ref g)) (Et : Exa Z h0 t "java/util/ImmutableCollections$List12") (Fr_ : Fld Z h0 t "java/util/ImmutableCollections$List12" "e0" "Ljava/lang/Object;" (.ref r)) (Er : Exa Z h0 r "com/example/slotwright/slotwright/EnrolmentInstance$Room") (G0 : Fld Z h0 r "com/example/slotwright/slotwright/EnrolmentInstance$Room" "size" "I" (.int s)) (G1 : Fld Z h0 r "com/example/slotwright/slotwright/EnrolmentInstance$Room" "features" "Ljava/util/BitSet;" (.ref b)) (Bb : own_B Z h0 b x u p' q') (Sa : Sta Z h0 "java/util/BitSet" "$assertionsDisabled" "Z" (.int 1)) (Sx : Sta Z h0 "java/util/ImmutableCollections" "EMPTY" "Ljava/lang/Object;" (.ref xo)) (nr : r ≠ xo) (nf : f ≠ xo) (Eg : Exa Z h0 g "java/util/ImmutableCollections$List12") (Gf : Fld Z h0 g "java/util/ImmutableCollections$List12" "e1" "Ljava/lang/Object;" (.ref f)) (Bf : own_B Z h0 f y u' p q) :
    Ct l Z K34 #[(.ref i), (.int (1 : Int32)), (.int z), (.int (0 : Int32))] h0 n0 (fun v h => v = some (.int (own_res s z p q p' q'))) := by
  refine Ct.of (Ls := #[.val (.ref i), .val (.int (1 : Int32)), .val (.int z), .val (.int (0 : Int32)), .unset, .unset]) (plainFor_of_name (by first | decide +kernel | (simp [plainName, overriddenIn]; done))) (fun m => by first | rfl | (simp [entryFrame, mkF, argsToLocals, Value.category]; done)) ?_
  intro E T W
  refine go_aloadN (pc' := 1) W d34_0 rfl rfl rfl ?_
  refine go_getF (pc' := 4) W (host := "") (Or.inl (w215 hw)) Via.refl F1 d34_1 rfl ?_
  intro T1982 W1982
  refine go_iloadN (pc' := 5) W1982 d34_4 rfl rfl ?_
  refine go_callF (kc := K35) (a := t) (argsL := [(.int (0 : Int32))]) (rest := []) (pc' := 10) W1982 (w230 hw) (w231 hw) (w232 hw) (w233 hw) (w234 hw) (w235 hw) (w236 hw) (w237 hw) (w188 hw) (w238 hw) Et (rmGet_0 E.l Z a0 hw t r  h0 n0 Z0 Fr_) (by decide) pd16 rfl rfl rfl (nb rfl) (nb rfl) (nb rfl) (nb rfl) d34_5 rfl ?_
  rintro _ T1983 h1983 ⟨rfl, q1983⟩ W1983
  replace W1983 := W1983.sub q1983
  show Go E _ (Fm E T1983 10 #[.val (.ref i), .val (.int (1 : Int32)), .val (.int z), .val (.int (0 : Int32)), .unset, .unset] [(.ref r)])
  refine go_castY (pc' := 13) W1983 (w239 hw) (Ins.self Er) d34_10 rfl ?_
  intro T1984 W1984
  refine go_astore (pc' := 15) (l' := #[.val (.ref i), .val (.int (1 : Int32)), .val (.int z), .val (.int (0 : Int32)), .val (.ref r), .unset]) W1984 d34_13 rfl rfl rfl ?_
  refine go_new (pc' := 18) W1984 (w241 hw) (w34 hw) (w35 hw) d34_15 (nb rfl) (nb rfl) rfl ?_
  intro T1985 h1985 b1985 g1985 W1985 E1985 A1985 D1985 M1985
  have ne1986 : i ≠ b1985 := by rw [g1985]; exact Nat.ne_of_lt Ei.lt
  have ne1987 : t ≠ b1985 := by rw [g1985]; exact Nat.ne_of_lt Et.lt
  have ne1988 : r ≠ b1985 := by rw [g1985]; exact Nat.ne_of_lt Er.lt
  have ne1989 : g ≠ b1985 := by rw [g1985]; exact Nat.ne_of_lt Eg.lt
  have ne1990 : f ≠ b1985 := by rw [g1985]; exact Nat.ne_of_lt Bf.1.lt
  have ge1991 : n0 ≤ b1985 := by rw [g1985]; exact Z0
  have old1992 : h0.size ≤ b1985 := by rw [g1985]; exact (Keep.refl h0 []).1
  have ne1993 : b ≠ b1985 := by rw [g1985]; exact Nat.ne_of_lt Bb.1.lt
  have ne1994 : x ≠ b1985 := by rw [g1985]; exact Nat.ne_of_lt Bb.ltx
  have ne1995 : f ≠ b1985 := by rw [g1985]; exact Nat.ne_of_lt Bf.1.lt
  have ne1996 : y ≠ b1985 := by rw [g1985]; exact Nat.ne_of_lt Bf.ltx
  have f1997 := Ei.ext E1985
  have f1998 := F1.ext E1985
  have f1999 := F2.ext E1985
  have f2000 := Et.ext E1985
  have f2001 := Fr_.ext E1985
  have f2002 := Er.ext E1985
  have f2003 := G0.ext E1985
  have f2004 := G1.ext E1985
  have f2005 := Sa.ext E1985
  have f2006 := Sx.ext E1985
  have ob2007 := own_B.keep Bb ((Keep.refl _ []).ext E1985) nin0 nin0
  have f2008 := Eg.ext E1985
  have f2009 := Gf.ext E1985
  have f2010 := Bf.1.ext E1985
  have ob2011 := own_B.keep Bf ((Keep.refl _ []).ext E1985) nin0 nin0
  have k2012 := (Keep.refl h0 []).ext E1985
  have z2013 := Nat.le_trans Z0 E1985.1
  have f2014 : Fld Z h1985 b1985 "java/util/BitSet" "wordsInUse" "I" (.int (0 : Int32)) := D1985 (Or.inl (w41 hw)) (ty := .int) (by decide)
  have f2015 : Fld Z h1985 b1985 "java/util/BitSet" "sizeIsSticky" "Z" (.int (0 : Int32)) := D1985 (Or.inl (w43 hw)) (ty := .boolean) (by decide)
  have f2016 : Fld Z h1985 b1985 "java/util/BitSet" "words" "[J" .null := D1985 (Or.inl (w54 hw)) (ty := (.array .long)) (by decide)
  refine go_dup (pc' := 19) W1985 d34_18 rfl rfl ?_
  refine go_callN (a := b1985) (kc := K6) (argsL := []) (rest := [(.ref b1985)]) (pc' := 22) W1985 (w242 hw) (w37 hw) (w35 hw) (w38 hw) (rm6 E.l Z a0 hw b1985 h1985 n0 z2013 A1985 f2016 f2014 f2015 ge1991) rfl rfl (by decide) pd0 rfl rfl rfl (nb rfl) (nb rfl) (nb rfl) (nb rfl) d34_19 rfl ?_
  rintro _ T2017 h2017 ⟨x2017, rfl, gx2017, so2017, K2017, g2017_0, g2017_1, g2017_2, ax2017⟩ W2017
  have ne2018 : b ≠ x2017 := Nat.ne_of_lt (Nat.lt_of_lt_of_le ob2007.1.lt so2017)
  have ne2019 : x ≠ x2017 := Nat.ne_of_lt (Nat.lt_of_lt_of_le ob2007.ltx so2017)
  have ne2020 : f ≠ x2017 := Nat.ne_of_lt (Nat.lt_of_lt_of_le ob2011.1.lt so2017)
  have ne2021 : y ≠ x2017 := Nat.ne_of_lt (Nat.lt_of_lt_of_le ob2011.ltx so2017)
  have ne2022 : i ≠ x2017 := Nat.ne_of_lt (Nat.lt_of_lt_of_le f1997.lt so2017)
  have ne2023 : t ≠ x2017 := Nat.ne_of_lt (Nat.lt_of_lt_of_le f2000.lt so2017)
  have ne2024 : r ≠ x2017 := Nat.ne_of_lt (Nat.lt_of_lt_of_le f2002.lt so2017)
  have ne2025 : g ≠ x2017 := Nat.ne_of_lt (Nat.lt_of_lt_of_le f2008.lt so2017)
  have ne2026 : f ≠ x2017 := Nat.ne_of_lt (Nat.lt_of_lt_of_le f2010.lt so2017)
  have ne2027 : b1985 ≠ x2017 := Nat.ne_of_lt (Nat.lt_of_lt_of_le A1985.lt so2017)
  have old2028 : h0.size ≤ x2017 := Nat.le_trans k2012.1 so2017
  have f2029 := f1997.keep K2017
  have f2030 := f1998.keep K2017 (ninS ne1986 nin0)
  have f2031 := f1999.keep K2017 (ninS ne1986 nin0)
  have f2032 := f2000.keep K2017
  have f2033 := f2001.keep K2017 (ninS ne1987 nin0)
  have f2034 := f2002.keep K2017
  have f2035 := f2003.keep K2017 (ninS ne1988 nin0)
  have f2036 := f2004.keep K2017 (ninS ne1988 nin0)
  have ob2038 := own_B.keep ob2007 K2017 (ninS ne1993 nin0) (ninS ne1994 nin0)
  have f2039 := f2008.keep K2017
  have f2040 := f2009.keep K2017 (ninS ne1989 nin0)
  have f2041 := f2010.keep K2017
  have ob2043 := own_B.keep ob2011 K2017 (ninS ne1995 nin0) (ninS ne1996 nin0)
  have f2044 := A1985.keep K2017
  have k2048 := k2012.trans K2017 (allS (Or.inr old1992) all0)
  have z2049 := Nat.le_trans z2013 K2017.1
  have f2050 := Sta.keepN f2005 K2017 (allS (Ns.exa A1985) all0)
  have f2051 := Sta.keepN f2006 K2017 (allS (Ns.exa A1985) all0)
  show Go E _ (Fm E T2017 22 #[.val (.ref i), .val (.int (1 : Int32)), .val (.int z), .val (.int (0 : Int32)), .val (.ref r), .unset] [(.ref b1985)])
  refine go_astore (pc' := 24) (l' := #[.val (.ref i), .val (.int (1 : Int32)), .val (.int z), .val (.int (0 : Int32)), .val (.ref r), .val (.ref b1985)]) W2017 d34_22 rfl rfl rfl ?_
  refine go_aloadN (pc' := 25) W2017 d34_24 rfl rfl rfl ?_
  refine go_getF (pc' := 28) W2017 (host := "") (Or.inl (w217 hw)) Via.refl f2031 d34_25 rfl ?_
  intro T2052 W2052
  refine go_callF (kc := K36) (a := g) (argsL := []) (rest := []) (pc' := 33) W2052 (w243 hw) (w244 hw) (w245 hw) (w246 hw) (w247 hw) (w248 hw) (w249 hw) (w237 hw) (w188 hw) (w250 hw) f2039 (rm36 E.l Z a0 hw g h2017 n0 z2049) (by decide) pd12 rfl rfl rfl (nb rfl) (nb rfl) (nb rfl) (nb rfl) d34_28 rfl ?_
  rintro _ T2053 h2053 ⟨rfl, q2053⟩ W2053
  replace W2053 := W2053.sub q2053
  show Go E _ (Fm E T2053 33 #[.val (.ref i), .val (.int (1 : Int32)), .val (.int z), .val (.int (0 : Int32)), .val (.ref r), .val (.ref b1985)] [(.int (0 : Int32))])
  refine go_if_ne (pt := 64) (pf := 36) W2053 d34_33 (by decide) rfl rfl (fun c33_2054 => ?_) (fun c33_2054 => ?_)
  · exact absurd c33_2054 (by decide)
  · -- pc 33 not taken
    refine go_aload (pc' := 38) W2053 d34_36 rfl rfl rfl ?_
    refine go_aloadN (pc' := 39) W2053 d34_38 rfl rfl rfl ?_
    refine go_getF (pc' := 42) W2053 (host := "") (Or.inl (w217 hw)) Via.refl f2031 d34_39 rfl ?_
    intro T2055 W2055
    refine go_iloadN (pc' := 43) W2055 d34_42 rfl rfl ?_
    refine go_callF (kc := K35) (a := g) (argsL := [(.int (1 : Int32))]) (rest := [(.ref b1985)]) (pc' := 48) W2055 (w230 hw) (w231 hw) (w232 hw) (w233 hw) (w234 hw) (w235 hw) (w236 hw) (w237 hw) (w188 hw) (w238 hw) f2039 (rmGet_1 E.l Z a0 hw g f xo h2017 n0 z2049 f2040 f2051 nf) (by decide) pd16 rfl rfl rfl (nb rfl) (nb rfl) (nb rfl) (nb rfl) d34_43 rfl ?_
    rintro _ T2056 h2056 ⟨rfl, q2056⟩ W2056
    replace W2056 := W2056.sub q2056
    show Go E _ (Fm E T2056 48 #[.val (.ref i), .val (.int (1 : Int32)), .val (.int z), .val (.int (0 : Int32)), .val (.ref r), .val (.ref b1985)] [(.ref f), (.ref b1985)])
    refine go_castY (pc' := 51) W2056 (w241 hw) (Ins.self f2041) d34_48 rfl ?_
    intro T2057 W2057
    refine go_callV (a := b1985) (kc := K37) (argsL := [(.ref f)]) (rest := []) (pc' := 54) W2057 (w252 hw) (w253 hw) (nf_sel W2057 (w255 hw)) (w255 hw) (w254 hw) (w35 hw) (w256 hw) f2044 (rm37 E.l Z a0 hw b1985 f x2017 y u' p q h2017 n0 z2049 f2044 g2017_0 g2017_1 g2017_2 ge1991 gx2017 ax2017 ob2043 (Ne.symm ne1995) (Ne.symm ne1996) (Ne.symm ne2026) (Ne.symm ne2021) ne2027 f2050) (by decide) pd17 rfl rfl rfl (nb rfl) (nb rfl) (nb rfl) (nb rfl) d34_51 rfl ?_
    rintro _ T2058 h2058 ⟨z2058, rfl, gz2058, hz2058, K2058, bz2058⟩ W2058
    have ne2059 : b ≠ z2058 := fun q => hz2058.elim (fun r => ne2018 (q.trans r)) (fun r => Nat.ne_of_lt (Nat.lt_of_lt_of_le ob2038.1.lt r) q)
    have ne2060 : x ≠ z2058 := fun q => hz2058.elim (fun r => ne2019 (q.trans r)) (fun r => Nat.ne_of_lt (Nat.lt_of_lt_of_le ob2038.ltx r) q)
    have ne2061 : f ≠ z2058 := fun q => hz2058.elim (fun r => ne2026 (q.trans r)) (fun r => Nat.ne_of_lt (Nat.lt_of_lt_of_le ob2043.1.lt r) q)
    have ne2062 : y ≠ z2058 := fun q => hz2058.elim (fun r => ne2021 (q.trans r)) (fun r => Nat.ne_of_lt (Nat.lt_of_lt_of_le ob2043.ltx r) q)
    have ne2063 : b1985 ≠ z2058 := fun q => hz2058.elim (fun r => ne2027 (q.trans r)) (fun r => Nat.ne_of_lt (Nat.lt_of_lt_of_le f2044.lt r) q)
    have ne2064 : r ≠ z2058 := fun q => hz2058.elim (fun r => ne2024 (q.trans r)) (fun r => Nat.ne_of_lt (Nat.lt_of_lt_of_le f2034.lt r) q)
    have old2065 : h0.size ≤ z2058 := hz2058.elim (fun r => by rw [r]; exact old2028) (fun r => Nat.le_trans k2048.1 r)
    have f2066 := f2029.keep K2058
    have f2067 := f2030.keep K2058 (ninS ne1986 (ninS ne2022 nin0))
    have f2068 := f2031.keep K2058 (ninS ne1986 (ninS ne2022 nin0))
    have f2069 := f2032.keep K2058
    have f2070 := f2033.keep K2058 (ninS ne1987 (ninS ne2023 nin0))
    have f2071 := f2034.keep K2058
    have f2072 := f2035.keep K2058 (ninS ne1988 (ninS ne2024 nin0))
    have f2073 := f2036.keep K2058 (ninS ne1988 (ninS ne2024 nin0))
    have ob2075 := own_B.keep ob2038 K2058 (ninS ne1993 (ninS ne2018 nin0)) (ninS ne1994 (ninS ne2019 nin0))
    have f2076 := f2039.keep K2058
    have f2077 := f2040.keep K2058 (ninS ne1989 (ninS ne2025 nin0))
    have f2078 := f2041.keep K2058
    have ob2080 := own_B.keep ob2043 K2058 (ninS ne1995 (ninS ne2026 nin0)) (ninS ne1996 (ninS ne2021 nin0))
    have f2081 := f2044.keep K2058
    have k2085 := k2048.trans K2058 (allS (Or.inr old1992) (allS (Or.inr old2028) all0))
    have z2086 := Nat.le_trans z2049 K2058.1
    have f2087 := Sta.keepN f2050 K2058 (allS (Ns.exa f2044) (allS (Ns.af ax2017) all0))
    have f2088 := Sta.keepN f2051 K2058 (allS (Ns.exa f2044) (allS (Ns.af ax2017) all0))
    show Go E _ (Fm E T2058 54 #[.val (.ref i), .val (.int (1 : Int32)), .val (.int z), .val (.int (0 : Int32)), .val (.ref r), .val (.ref b1985)] [])
    refine go_aload (pc' := 56) W2058 d34_54 rfl rfl rfl ?_
    refine go_aload (pc' := 58) W2058 d34_56 rfl rfl rfl ?_
    refine go_callV (a := r) (kc := K38) (argsL := []) (rest := [(.ref b1985)]) (pc' := 61) W2058 (w258 hw) (w259 hw) (nf_sel W2058 (w261 hw)) (w261 hw) (w260 hw) (w28 hw) (w262 hw) f2071 (rm38 E.l Z a0 hw r b h2058 n0 z2086 f2073) (by decide) pd18 rfl rfl rfl (nb rfl) (nb rfl) (nb rfl) (nb rfl) d34_58 rfl ?_
    rintro _ T2089 h2089 ⟨rfl, q2089⟩ W2089
    replace W2089 := W2089.sub q2089
    show Go E _ (Fm E T2089 61 #[.val (.ref i), .val (.int (1 : Int32)), .val (.int z), .val (.int (0 : Int32)), .val (.ref r), .val (.ref b1985)] [(.ref b), (.ref b1985)])
    refine go_callV (a := b1985) (kc := K39) (argsL := [(.ref b)]) (rest := []) (pc' := 64) W2089 (w263 hw) (w264 hw) (nf_sel W2089 (w266 hw)) (w266 hw) (w265 hw) (w35 hw) (w267 hw) f2081 (rm39 E.l Z a0 hw b1985 b z2058 x u' u p q p' q' h2058 n0 z2086 bz2058 ob2075 ge1991 gz2058 (Ne.symm ne1993) (Ne.symm ne1994) (Ne.symm ne2059) (Ne.symm ne2060) ne2063 f2087) (by decide) pd17 rfl rfl rfl (nb rfl) (nb rfl) (nb rfl) (nb rfl) d34_61 rfl ?_
    rintro _ T2090 h2090 ⟨r2090, rfl, K2090, fu2090, hr2090⟩ W2090
    have f2091 := f2066.keep K2090
    have f2092 := f2069.keep K2090
    have f2093 := f2071.keep K2090
    have f2094 := f2072.keep K2090 (ninS ne1988 (ninS ne2064 nin0))
    have f2095 := f2073.keep K2090 (ninS ne1988 (ninS ne2064 nin0))
    have f2096 := f2076.keep K2090
    have f2097 := f2078.keep K2090
    have f2098 := f2081.keep K2090
    have k2099 := k2085.trans K2090 (allS (Or.inr old1992) (allS (Or.inr old2065) all0))
    have z2100 := Nat.le_trans z2086 K2090.1
    show Go E _ (Fm E T2090 64 #[.val (.ref i), .val (.int (1 : Int32)), .val (.int z), .val (.int (0 : Int32)), .val (.ref r), .val (.ref b1985)] [])
    refine go_aload (pc' := 66) W2090 d34_64 rfl rfl rfl ?_
    refine go_callV (a := r) (kc := K41) (argsL := []) (rest := []) (pc' := 69) W2090 (w273 hw) (w274 hw) (nf_sel W2090 (w276 hw)) (w276 hw) (w275 hw) (w28 hw) (w277 hw) f2093 (rm41 E.l Z a0 hw r s h2090 n0 z2100 f2094) (by decide) pd19 rfl rfl rfl (nb rfl) (nb rfl) (nb rfl) (nb rfl) d34_66 rfl ?_
    rintro _ T2101 h2101 ⟨rfl, q2101⟩ W2101
    replace W2101 := W2101.sub q2101
    show Go E _ (Fm E T2101 69 #[.val (.ref i), .val (.int (1 : Int32)), .val (.int z), .val (.int (0 : Int32)), .val (.ref r), .val (.ref b1985)] [(.int s)])
    refine go_iloadN (pc' := 70) W2101 d34_69 rfl rfl ?_
    refine go_icmp_lt (pt := 85) (pf := 73) W2101 d34_70 (by decide) rfl rfl (fun c70_2102 => ?_) (fun c70_2102 => ?_)
    · -- pc 70 taken
      refine go_iconst (pc' := 86) (z := 0) W2101 d34_85 rfl rfl ?_
      exact go_retI W2101 (t := .boolean) rfl (by simp) rfl d34_86 (nb rfl) (nb rfl) (congrArg (fun z => some (Value.int z)) (own_r1 _ _ _ _ c70_2102))
    · -- pc 70 not taken
      refine go_aload (pc' := 75) W2101 d34_73 rfl rfl rfl ?_
      refine go_callV (a := b1985) (kc := K43) (argsL := []) (rest := []) (pc' := 78) W2101 (w282 hw) (w283 hw) (nf_sel W2101 (w285 hw)) (w285 hw) (w284 hw) (w35 hw) (w286 hw) f2098 (rm43 E.l Z a0 hw b1985 r2090 h2090 n0 z2100 fu2090) (by decide) pd12 rfl rfl rfl (nb rfl) (nb rfl) (nb rfl) (nb rfl) d34_75 rfl ?_
      rintro _ T2103 h2103 ⟨rfl, q2103⟩ W2103
      replace W2103 := W2103.sub q2103
      show Go E _ (Fm E T2103 78 #[.val (.ref i), .val (.int (1 : Int32)), .val (.int z), .val (.int (0 : Int32)), .val (.ref r), .val (.ref b1985)] [(.int (own_e r2090))])
      refine go_if_eq (pt := 85) (pf := 81) W2103 d34_78 (by decide) rfl rfl (fun c78_2104 => ?_) (fun c78_2104 => ?_)
      · -- pc 78 taken
        refine go_iconst (pc' := 86) (z := 0) W2103 d34_85 rfl rfl ?_
        exact go_retI W2103 (t := .boolean) rfl (by simp) rfl d34_86 (nb rfl) (nb rfl) (congrArg (fun z => some (Value.int z)) (own_r2 c70_2102 hr2090 c78_2104))
      · -- pc 78 not taken
        refine go_iconst (pc' := 82) (z := 1) W2103 d34_81 rfl rfl ?_
        refine go_goto (pc' := 86) W2103 d34_82 (by decide) rfl ?_
        exact go_retI W2103 (t := .boolean) rfl (by simp) rfl d34_86 (nb rfl) (nb rfl) (congrArg (fun z => some (Value.int z)) (own_r3 c70_2102 hr2090 c78_2104))
set_option maxRecDepth 65536 in
set_option maxHeartbeats 4000000 in
theorem rmSu_S11 (l : Launch) (Z : State) (a0 : Array Value) (hw : Hw a0 Z) (i : Addr) (z : Int32) (t g r b x xo f : Addr) (s : Int32) (u : Nat) (p' q' : Int64) (y : Addr) (u' : Nat) (p q : Int64) (h0 : Heap) (n0 : Nat) (Z0 : n0 ≤ h0.size) (Ei : Exa Z h0 i "com/example/slotwright/slotwright/EnrolmentInstance") (F1 : Fld Z h0 i "com/example/slotwright/slotwright/EnrolmentInstance" "rooms" "Ljava/util/List;" (.ref t)) (F2 : Fld Z h0 i "com/example/slotwright/slotwright/EnrolmentInstance" "eventFeatures" "Ljava/util/List;" (.ref g)) (Et : Exa Z h0 t "java/util/ImmutableCollections$List12") (Fr_ : Fld Z h0 t "java/util/ImmutableCollections$List12" "e1" "Ljava/lang/Object;" (.ref r)) (Er : Exa Z h0 r "com/example/slotwright/slotwright/EnrolmentInstance$Room") (G0 : Fld Z h0 r "com/example/slotwright/slotwright/EnrolmentInstance$Room" "size" "I" (.int s)) (G1 : Fld Z h0 r "com/example/slotwright/slotwright/EnrolmentInstance$Room" "features" "Ljava/util/BitSet;" (.ref b)) (Bb : own_B Z h0 b x u p' q') (Sa : Sta Z h0 "java/util/BitSet" "$assertionsDisabled" "Z" (.int 1)) (Sx : Sta Z h0 "java/util/ImmutableCollections" "EMPTY" "Ljava/lang/Object;" (.ref xo)) (nr : r ≠ xo) (nf : f ≠ xo) (Eg : Exa Z h0 g "java/util/ImmutableCollections$List12") (Gf : Fld Z h0 g "java/util/ImmutableCollections$List12" "e1" "Ljava/lang/Object;" (.ref f)) (Bf : own_B Z h0 f y u' p q) :
    Ct l Z K34 #[(.ref i), (.int (1 : Int32)), (.int z), (.int (1 : Int32))] h0 n0 (fun v h => v = some (.int (own_res s z p q p' q'))) := by
  refine Ct.of (Ls := #[.val (.ref i), .val (.int (1 : Int32)), .val (.int z), .val (.int (1 : Int32)), .unset, .unset]) (plainFor_of_name (by first | decide +kernel | (simp [plainName, overriddenIn]; done))) (fun m => by first | rfl | (simp [entryFrame, mkF, argsToLocals, Value.category]; done)) ?_
  intro E T W
  refine go_aloadN (pc' := 1) W d34_0 rfl rfl rfl ?_
  refine go_getF (pc' := 4) W (host := "") (Or.inl (w215 hw)) Via.refl F1 d34_1 rfl ?_
  intro T2105 W2105
  refine go_iloadN (pc' := 5) W2105 d34_4 rfl rfl ?_
  refine go_callF (kc := K35) (a := t) (argsL := [(.int (1 : Int32))]) (rest := []) (pc' := 10) W2105 (w230 hw) (w231 hw) (w232 hw) (w233 hw) (w234 hw) (w235 hw) (w236 hw) (w237 hw) (w188 hw) (w238 hw) Et (rmGet_1 E.l Z a0 hw t r xo h0 n0 Z0 Fr_ Sx nr) (by decide) pd16 rfl rfl rfl (nb rfl) (nb rfl) (nb rfl) (nb rfl) d34_5 rfl ?_
  rintro _ T2106 h2106 ⟨rfl, q2106⟩ W2106
  replace W2106 := W2106.sub q2106
  show Go E _ (Fm E T2106 10 #[.val (.ref i), .val (.int (1 : Int32)), .val (.int z), .val (.int (1 : Int32)), .unset, .unset] [(.ref r)])
  refine go_castY (pc' := 13) W2106 (w239 hw) (Ins.self Er) d34_10 rfl ?_
  intro T2107 W2107
  refine go_astore (pc' := 15) (l' := #[.val (.ref i), .val (.int (1 : Int32)), .val (.int z), .val (.int (1 : Int32)), .val (.ref r), .unset]) W2107 d34_13 rfl rfl rfl ?_
  refine go_new (pc' := 18) W2107 (w241 hw) (w34 hw) (w35 hw) d34_15 (nb rfl) (nb rfl) rfl ?_
  intro T2108 h2108 b2108 g2108 W2108 E2108 A2108 D2108 M2108
  have ne2109 : i ≠ b2108 := by rw [g2108]; exact Nat.ne_of_lt Ei.lt
  have ne2110 : t ≠ b2108 := by rw [g2108]; exact Nat.ne_of_lt Et.lt
  have ne2111 : r ≠ b2108 := by rw [g2108]; exact Nat.ne_of_lt Er.lt
  have ne2112 : g ≠ b2108 := by rw [g2108]; exact Nat.ne_of_lt Eg.lt
  have ne2113 : f ≠ b2108 := by rw [g2108]; exact Nat.ne_of_lt Bf.1.lt
  have ge2114 : n0 ≤ b2108 := by rw [g2108]; exact Z0
  have old2115 : h0.size ≤ b2108 := by rw [g2108]; exact (Keep.refl h0 []).1
  have ne2116 : b ≠ b2108 := by rw [g2108]; exact Nat.ne_of_lt Bb.1.lt
  have ne2117 : x ≠ b2108 := by rw [g2108]; exact Nat.ne_of_lt Bb.ltx
  have ne2118 : f ≠ b2108 := by rw [g2108]; exact Nat.ne_of_lt Bf.1.lt
  have ne2119 : y ≠ b2108 := by rw [g2108]; exact Nat.ne_of_lt Bf.ltx
  have f2120 := Ei.ext E2108
  have f2121 := F1.ext E2108
  have f2122 := F2.ext E2108
  have f2123 := Et.ext E2108
  have f2124 := Fr_.ext E2108
  have f2125 := Er.ext E2108
  have f2126 := G0.ext E2108
  have f2127 := G1.ext E2108
  have f2128 := Sa.ext E2108
  have f2129 := Sx.ext E2108
  have ob2130 := own_B.keep Bb ((Keep.refl _ []).ext E2108) nin0 nin0
  have f2131 := Eg.ext E2108
  have f2132 := Gf.ext E2108
  have f2133 := Bf.1.ext E2108
  have ob2134 := own_B.keep Bf ((Keep.refl _ []).ext E2108) nin0 nin0
  have k2135 := (Keep.refl h0 []).ext E2108
  have z2136 := Nat.le_trans Z0 E2108.1
  have f2137 : Fld Z h2108 b2108 "java/util/BitSet" "wordsInUse" "I" (.int (0 : Int32)) := D2108 (Or.inl (w41 hw)) (ty := .int) (by decide)
  have f2138 : Fld Z h2108 b2108 "java/util/BitSet" "sizeIsSticky" "Z" (.int (0 : Int32)) := D2108 (Or.inl (w43 hw)) (ty := .boolean) (by decide)
  have f2139 : Fld Z h2108 b2108 "java/util/BitSet" "words" "[J" .null := D2108 (Or.inl (w54 hw)) (ty := (.array .long)) (by decide)
  refine go_dup (pc' := 19) W2108 d34_18 rfl rfl ?_
  refine go_callN (a := b2108) (kc := K6) (argsL := []) (rest := [(.ref b2108)]) (pc' := 22) W2108 (w242 hw) (w37 hw) (w35 hw) (w38 hw) (rm6 E.l Z a0 hw b2108 h2108 n0 z2136 A2108 f2139 f2137 f2138 ge2114) rfl rfl (by decide) pd0 rfl rfl rfl (nb rfl) (nb rfl) (nb rfl) (nb rfl) d34_19 rfl ?_
  rintro _ T2140 h2140 ⟨x2140, rfl, gx2140, so2140, K2140, g2140_0, g2140_1, g2140_2, ax2140⟩ W2140
  have ne2141 : b ≠ x2140 := Nat.ne_of_lt (Nat.lt_of_lt_of_le ob2130.1.lt so2140)
  have ne2142 : x ≠ x2140 := Nat.ne_of_lt (Nat.lt_of_lt_of_le ob2130.ltx so2140)
  have ne2143 : f ≠ x2140 := Nat.ne_of_lt (Nat.lt_of_lt_of_le ob2134.1.lt so2140)
  have ne2144 : y ≠ x2140 := Nat.ne_of_lt (Nat.lt_of_lt_of_le ob2134.ltx so2140)
  have ne2145 : i ≠ x2140 := Nat.ne_of_lt (Nat.lt_of_lt_of_le f2120.lt so2140)
  have ne2146 : t ≠ x2140 := Nat.ne_of_lt (Nat.lt_of_lt_of_le f2123.lt so2140)
  have ne2147 : r ≠ x2140 := Nat.ne_of_lt (Nat.lt_of_lt_of_le f2125.lt so2140)
  have ne2148 : g ≠ x2140 := Nat.ne_of_lt (Nat.lt_of_lt_of_le f2131.lt so2140)
  have ne2149 : f ≠ x2140 := Nat.ne_of_lt (Nat.lt_of_lt_of_le f2133.lt so2140)
  have ne2150 : b2108 ≠ x2140 := Nat.ne_of_lt (Nat.lt_of_lt_of_le A2108.lt so2140)
  have old2151 : h0.size ≤ x2140 := Nat.le_trans k2135.1 so2140
  have f2152 := f2120.keep K2140
  have f2153 := f2121.keep K2140 (ninS ne2109 nin0)
  have f2154 := f2122.keep K2140 (ninS ne2109 nin0)
  have f2155 := f2123.keep K2140
  have f2156 := f2124.keep K2140 (ninS ne2110 nin0)
  have f2157 := f2125.keep K2140
  have f2158 := f2126.keep K2140 (ninS ne2111 nin0)
  have f2159 := f2127.keep K2140 (ninS ne2111 nin0)
  have ob2161 := own_B.keep ob2130 K2140 (ninS ne2116 nin0) (ninS ne2117 nin0)
  have f2162 := f2131.keep K2140
  have f2163 := f2132.keep K2140 (ninS ne2112 nin0)
  have f2164 := f2133.keep K2140
  have ob2166 := own_B.keep ob2134 K2140 (ninS ne2118 nin0) (ninS ne2119 nin0)
  have f2167 := A2108.keep K2140
  have k2171 := k2135.trans K2140 (allS (Or.inr old2115) all0)
  have z2172 := Nat.le_trans z2136 K2140.1
  have f2173 := Sta.keepN f2128 K2140 (allS (Ns.exa A2108) all0)
  have f2174 := Sta.keepN f2129 K2140 (allS (Ns.exa A2108) all0)
  show Go E _ (Fm E T2140 22 #[.val (.ref i), .val (.int (1 : Int32)), .val (.int z), .val (.int (1 : Int32)), .val (.ref r), .unset] [(.ref b2108)])
  refine go_astore (pc' := 24) (l' := #[.val (.ref i), .val (.int (1 : Int32)), .val (.int z), .val (.int (1 : Int32)), .val (.ref r), .val (.ref b2108)]) W2140 d34_22 rfl rfl rfl ?_
  refine go_aloadN (pc' := 25) W2140 d34_24 rfl rfl rfl ?_
  refine go_getF (pc' := 28) W2140 (host := "") (Or.inl (w217 hw)) Via.refl f2154 d34_25 rfl ?_
  intro T2175 W2175
  refine go_callF (kc := K36) (a := g) (argsL := []) (rest := []) (pc' := 33) W2175 (w243 hw) (w244 hw) (w245 hw) (w246 hw) (w247 hw) (w248 hw) (w249 hw) (w237 hw) (w188 hw) (w250 hw) f2162 (rm36 E.l Z a0 hw g h2140 n0 z2172) (by decide) pd12 rfl rfl rfl (nb rfl) (nb rfl) (nb rfl) (nb rfl) d34_28 rfl ?_
  rintro _ T2176 h2176 ⟨rfl, q2176⟩ W2176
  replace W2176 := W2176.sub q2176
  show Go E _ (Fm E T2176 33 #[.val (.ref i), .val (.int (1 : Int32)), .val (.int z), .val (.int (1 : Int32)), .val (.ref r), .val (.ref b2108)] [(.int (0 : Int32))])
  refine go_if_ne (pt := 64) (pf := 36) W2176 d34_33 (by decide) rfl rfl (fun c33_2177 => ?_) (fun c33_2177 => ?_)
  · exact absurd c33_2177 (by decide)
  · -- pc 33 not taken
    refine go_aload (pc' := 38) W2176 d34_36 rfl rfl rfl ?_
    refine go_aloadN (pc' := 39) W2176 d34_38 rfl rfl rfl ?_
    refine go_getF (pc' := 42) W2176 (host := "") (Or.inl (w217 hw)) Via.refl f2154 d34_39 rfl ?_
    intro T2178 W2178
    refine go_iloadN (pc' := 43) W2178 d34_42 rfl rfl ?_
    refine go_callF (kc := K35) (a := g) (argsL := [(.int (1 : Int32))]) (rest := [(.ref b2108)]) (pc' := 48) W2178 (w230 hw) (w231 hw) (w232 hw) (w233 hw) (w234 hw) (w235 hw) (w236 hw) (w237 hw) (w188 hw) (w238 hw) f2162 (rmGet_1 E.l Z a0 hw g f xo h2140 n0 z2172 f2163 f2174 nf) (by decide) pd16 rfl rfl rfl (nb rfl) (nb rfl) (nb rfl) (nb rfl) d34_43 rfl ?_
    rintro _ T2179 h2179 ⟨rfl, q2179⟩ W2179
    replace W2179 := W2179.sub q2179
    show Go E _ (Fm E T2179 48 #[.val (.ref i), .val (.int (1 : Int32)), .val (.int z), .val (.int (1 : Int32)), .val (.ref r), .val (.ref b2108)] [(.ref f), (.ref b2108)])
    refine go_castY (pc' := 51) W2179 (w241 hw) (Ins.self f2164) d34_48 rfl ?_
    intro T2180 W2180
    refine go_callV (a := b2108) (kc := K37) (argsL := [(.ref f)]) (rest := []) (pc' := 54) W2180 (w252 hw) (w253 hw) (nf_sel W2180 (w255 hw)) (w255 hw) (w254 hw) (w35 hw) (w256 hw) f2167 (rm37 E.l Z a0 hw b2108 f x2140 y u' p q h2140 n0 z2172 f2167 g2140_0 g2140_1 g2140_2 ge2114 gx2140 ax2140 ob2166 (Ne.symm ne2118) (Ne.symm ne2119) (Ne.symm ne2149) (Ne.symm ne2144) ne2150 f2173) (by decide) pd17 rfl rfl rfl (nb rfl) (nb rfl) (nb rfl) (nb rfl) d34_51 rfl ?_
    rintro _ T2181 h2181 ⟨z2181, rfl, gz2181, hz2181, K2181, bz2181⟩ W2181
    have ne2182 : b ≠ z2181 := fun q => hz2181.elim (fun r => ne2141 (q.trans r)) (fun r => Nat.ne_of_lt (Nat.lt_of_lt_of_le ob2161.1.lt r) q)
    have ne2183 : x ≠ z2181 := fun q => hz2181.elim (fun r => ne2142 (q.trans r)) (fun r => Nat.ne_of_lt (Nat.lt_of_lt_of_le ob2161.ltx r) q)
    have ne2184 : f ≠ z2181 := fun q => hz2181.elim (fun r => ne2149 (q.trans r)) (fun r => Nat.ne_of_lt (Nat.lt_of_lt_of_le ob2166.1.lt r) q)
    have ne2185 : y ≠ z2181 := fun q => hz2181.elim (fun r => ne2144 (q.trans r)) (fun r => Nat.ne_of_lt (Nat.lt_of_lt_of_le ob2166.ltx r) q)
    have ne2186 : b2108 ≠ z2181 := fun q => hz2181.elim (fun r => ne2150 (q.trans r)) (fun r => Nat.ne_of_lt (Nat.lt_of_lt_of_le f2167.lt r) q)
    have ne2187 : r ≠ z2181 := fun q => hz2181.elim (fun r => ne2147 (q.trans r)) (fun r => Nat.ne_of_lt (Nat.lt_of_lt_of_le f2157.lt r) q)
    have old2188 : h0.size ≤ z2181 := hz2181.elim (fun r => by rw [r]; exact old2151) (fun r => Nat.le_trans k2171.1 r)
    have f2189 := f2152.keep K2181
    have f2190 := f2153.keep K2181 (ninS ne2109 (ninS ne2145 nin0))
    have f2191 := f2154.keep K2181 (ninS ne2109 (ninS ne2145 nin0))
    have f2192 := f2155.keep K2181
    have f2193 := f2156.keep K2181 (ninS ne2110 (ninS ne2146 nin0))
    have f2194 := f2157.keep K2181
    have f2195 := f2158.keep K2181 (ninS ne2111 (ninS ne2147 nin0))
    have f2196 := f2159.keep K2181 (ninS ne2111 (ninS ne2147 nin0))
    have ob2198 := own_B.keep ob2161 K2181 (ninS ne2116 (ninS ne2141 nin0)) (ninS ne2117 (ninS ne2142 nin0))
    have f2199 := f2162.keep K2181
    have f2200 := f2163.keep K2181 (ninS ne2112 (ninS ne2148 nin0))
    have f2201 := f2164.keep K2181
    have ob2203 := own_B.keep ob2166 K2181 (ninS ne2118 (ninS ne2149 nin0)) (ninS ne2119 (ninS ne2144 nin0))
    have f2204 := f2167.keep K2181
    have k2208 := k2171.trans K2181 (allS (Or.inr old2115) (allS (Or.inr old2151) all0))
    have z2209 := Nat.le_trans z2172 K2181.1
    have f2210 := Sta.keepN f2173 K2181 (allS (Ns.exa f2167) (allS (Ns.af ax2140) all0))
    have f2211 := Sta.keepN f2174 K2181 (allS (Ns.exa f2167) (allS (Ns.af ax2140) all0))
    show Go E _ (Fm E T2181 54 #[.val (.ref i), .val (.int (1 : Int32)), .val (.int z), .val (.int (1 : Int32)), .val (.ref r), .val (.ref b2108)] [])
    refine go_aload (pc' := 56) W2181 d34_54 rfl rfl rfl ?_
    refine go_aload (pc' := 58) W2181 d34_56 rfl rfl rfl ?_
    refine go_callV (a := r) (kc := K38) (argsL := []) (rest := [(.ref b2108)]) (pc' := 61) W2181 (w258 hw) (w259 hw) (nf_sel W2181 (w261 hw)) (w261 hw) (w260 hw) (w28 hw) (w262 hw) f2194 (rm38 E.l Z a0 hw r b h2181 n0 z2209 f2196) (by decide) pd18 rfl rfl rfl (nb rfl) (nb rfl) (nb rfl) (nb rfl) d34_58 rfl ?_
    rintro _ T2212 h2212 ⟨rfl, q2212⟩ W2212
    replace W2212 := W2212.sub q2212
    show Go E _ (Fm E T2212 61 #[.val (.ref i), .val (.int (1 : Int32)), .val (.int z), .val (.int (1 : Int32)), .val (.ref r), .val (.ref b2108)] [(.ref b), (.ref b2108)])
    refine go_callV (a := b2108) (kc := K39) (argsL := [(.ref b)]) (rest := []) (pc' := 64) W2212 (w263 hw) (w264 hw) (nf_sel W2212 (w266 hw)) (w266 hw) (w265 hw) (w35 hw) (w267 hw) f2204 (rm39 E.l Z a0 hw b2108 b z2181 x u' u p q p' q' h2181 n0 z2209 bz2181 ob2198 ge2114 gz2181 (Ne.symm ne2116) (Ne.symm ne2117) (Ne.symm ne2182) (Ne.symm ne2183) ne2186 f2210) (by decide) pd17 rfl rfl rfl (nb rfl) (nb rfl) (nb rfl) (nb rfl) d34_61 rfl ?_
    rintro _ T2213 h2213 ⟨r2213, rfl, K2213, fu2213, hr2213⟩ W2213
    have f2214 := f2189.keep K2213
    have f2215 := f2192.keep K2213
    have f2216 := f2194.keep K2213
    have f2217 := f2195.keep K2213 (ninS ne2111 (ninS ne2187 nin0))
    have f2218 := f2196.keep K2213 (ninS ne2111 (ninS ne2187 nin0))
    have f2219 := f2199.keep K2213
    have f2220 := f2201.keep K2213
    have f2221 := f2204.keep K2213
    have k2222 := k2208.trans K2213 (allS (Or.inr old2115) (allS (Or.inr old2188) all0))
    have z2223 := Nat.le_trans z2209 K2213.1
    show Go E _ (Fm E T2213 64 #[.val (.ref i), .val (.int (1 : Int32)), .val (.int z), .val (.int (1 : Int32)), .val (.ref r), .val (.ref b2108)] [])
    refine go_aload (pc' := 66) W2213 d34_64 rfl rfl rfl ?_
    refine go_callV (a := r) (kc := K41) (argsL := []) (rest := []) (pc' := 69) W2213 (w273 hw) (w274 hw) (nf_sel W2213 (w276 hw)) (w276 hw) (w275 hw) (w28 hw) (w277 hw) f2216 (rm41 E.l Z a0 hw r s h2213 n0 z2223 f2217) (by decide) pd19 rfl rfl rfl (nb rfl) (nb rfl) (nb rfl) (nb rfl) d34_66 rfl ?_
    rintro _ T2224 h2224 ⟨rfl, q2224⟩ W2224
    replace W2224 := W2224.sub q2224
    show Go E _ (Fm E T2224 69 #[.val (.ref i), .val (.int (1 : Int32)), .val (.int z), .val (.int (1 : Int32)), .val (.ref r), .val (.ref b2108)] [(.int s)])
    refine go_iloadN (pc' := 70) W2224 d34_69 rfl rfl ?_
    refine go_icmp_lt (pt := 85) (pf := 73) W2224 d34_70 (by decide) rfl rfl (fun c70_2225 => ?_) (fun c70_2225 => ?_)
    · -- pc 70 taken
      refine go_iconst (pc' := 86) (z := 0) W2224 d34_85 rfl rfl ?_
      exact go_retI W2224 (t := .boolean) rfl (by simp) rfl d34_86 (nb rfl) (nb rfl) (congrArg (fun z => some (Value.int z)) (own_r1 _ _ _ _ c70_2225))
    · -- pc 70 not taken
      refine go_aload (pc' := 75) W2224 d34_73 rfl rfl rfl ?_
      refine go_callV (a := b2108) (kc := K43) (argsL := []) (rest := []) (pc' := 78) W2224 (w282 hw) (w283 hw) (nf_sel W2224 (w285 hw)) (w285 hw) (w284 hw) (w35 hw) (w286 hw) f2221 (rm43 E.l Z a0 hw b2108 r2213 h2213 n0 z2223 fu2213) (by decide) pd12 rfl rfl rfl (nb rfl) (nb rfl) (nb rfl) (nb rfl) d34_75 rfl ?_
      rintro _ T2226 h2226 ⟨rfl, q2226⟩ W2226
      replace W2226 := W2226.sub q2226
      show Go E _ (Fm E T2226 78 #[.val (.ref i), .val (.int (1 : Int32)), .val (.int z), .val (.int (1 : Int32)), .val (.ref r), .val (.ref b2108)] [(.int (own_e r2213))])
      refine go_if_eq (pt := 85) (pf := 81) W2226 d34_78 (by decide) rfl rfl (fun c78_2227 => ?_) (fun c78_2227 => ?_)
      · -- pc 78 taken
        refine go_iconst (pc' := 86) (z := 0) W2226 d34_85 rfl rfl ?_
        exact go_retI W2226 (t := .boolean) rfl (by simp) rfl d34_86 (nb rfl) (nb rfl) (congrArg (fun z => some (Value.int z)) (own_r2 c70_2225 hr2213 c78_2227))
      · -- pc 78 not taken
        refine go_iconst (pc' := 82) (z := 1) W2226 d34_81 rfl rfl ?_
        refine go_goto (pc' := 86) W2226 d34_82 (by decide) rfl ?_
        exact go_retI W2226 (t := .boolean) rfl (by simp) rfl d34_86 (nb rfl) (nb rfl) (congrArg (fun z => some (Value.int z)) (own_r3 c70_2225 hr2213 c78_2227))
set_option maxRecDepth 65536 in
set_option maxHeartbeats 4000000 in
theorem rmSu_N00 (l : Launch) (Z : State) (a0 : Array Value) (hw : Hw a0 Z) (i : Addr) (ev : Int32) (z : Int32) (t g r b x xo f : Addr) (s : Int32) (u : Nat) (p' q' : Int64) (es : Addr) (h0 : Heap) (n0 : Nat) (Z0 : n0 ≤ h0.size) (Ei : Exa Z h0 i "com/example/slotwright/slotwright/EnrolmentInstance") (F1 : Fld Z h0 i "com/example/slotwright/slotwright/EnrolmentInstance" "rooms" "Ljava/util/List;" (.ref t)) (F2 : Fld Z h0 i "com/example/slotwright/slotwright/EnrolmentInstance" "eventFeatures" "Ljava/util/List;" (.ref g)) (Et : Exa Z h0 t "java/util/ImmutableCollections$List12") (Fr_ : Fld Z h0 t "java/util/ImmutableCollections$List12" "e0" "Ljava/lang/Object;" (.ref r)) (Er : Exa Z h0 r "com/example/slotwright/slotwright/EnrolmentInstance$Room") (G0 : Fld Z h0 r "com/example/slotwright/slotwright/EnrolmentInstance$Room" "size" "I" (.int s)) (G1 : Fld Z h0 r "com/example/slotwright/slotwright/EnrolmentInstance$Room" "features" "Ljava/util/BitSet;" (.ref b)) (Bb : own_B Z h0 b x u p' q') (Sa : Sta Z h0 "java/util/BitSet" "$assertionsDisabled" "Z" (.int 1)) (Sx : Sta Z h0 "java/util/ImmutableCollections" "EMPTY" "Ljava/lang/Object;" (.ref xo)) (nr : r ≠ xo) (nf : f ≠ xo) (Eg : Exa Z h0 g "java/util/ImmutableCollections$ListN") (Gf : Fld Z h0 g "java/util/ImmutableCollections$ListN" "elements" "[Ljava/lang/Object;" (.ref es)) (As : Af Z h0 es (.object OB) 0 (fun _ => .null)) :
    Ct l Z K34 #[(.ref i), (.int ev), (.int z), (.int (0 : Int32))] h0 n0 (fun v h => v = some (.int (own_res s z 0 0 p' q'))) := by
  refine Ct.of (Ls := #[.val (.ref i), .val (.int ev), .val (.int z), .val (.int (0 : Int32)), .unset, .unset]) (plainFor_of_name (by first | decide +kernel | (simp [plainName, overriddenIn]; done))) (fun m => by first | rfl | (simp [entryFrame, mkF, argsToLocals, Value.category]; done)) ?_
  intro E T W
  refine go_aloadN (pc' := 1) W d34_0 rfl rfl rfl ?_
  refine go_getF (pc' := 4) W (host := "") (Or.inl (w215 hw)) Via.refl F1 d34_1 rfl ?_
  intro T2228 W2228
  refine go_iloadN (pc' := 5) W2228 d34_4 rfl rfl ?_
  refine go_callF (kc := K35) (a := t) (argsL := [(.int (0 : Int32))]) (rest := []) (pc' := 10) W2228 (w230 hw) (w231 hw) (w232 hw) (w233 hw) (w234 hw) (w235 hw) (w236 hw) (w237 hw) (w188 hw) (w238 hw) Et (rmGet_0 E.l Z a0 hw t r  h0 n0 Z0 Fr_) (by decide) pd16 rfl rfl rfl (nb rfl) (nb rfl) (nb rfl) (nb rfl) d34_5 rfl ?_
  rintro _ T2229 h2229 ⟨rfl, q2229⟩ W2229
  replace W2229 := W2229.sub q2229
  show Go E _ (Fm E T2229 10 #[.val (.ref i), .val (.int ev), .val (.int z), .val (.int (0 : Int32)), .unset, .unset] [(.ref r)])
  refine go_castY (pc' := 13) W2229 (w239 hw) (Ins.self Er) d34_10 rfl ?_
  intro T2230 W2230
  refine go_astore (pc' := 15) (l' := #[.val (.ref i), .val (.int ev), .val (.int z), .val (.int (0 : Int32)), .val (.ref r), .unset]) W2230 d34_13 rfl rfl rfl ?_
  refine go_new (pc' := 18) W2230 (w241 hw) (w34 hw) (w35 hw) d34_15 (nb rfl) (nb rfl) rfl ?_
  intro T2231 h2231 b2231 g2231 W2231 E2231 A2231 D2231 M2231
  have ne2232 : i ≠ b2231 := by rw [g2231]; exact Nat.ne_of_lt Ei.lt
  have ne2233 : t ≠ b2231 := by rw [g2231]; exact Nat.ne_of_lt Et.lt
  have ne2234 : r ≠ b2231 := by rw [g2231]; exact Nat.ne_of_lt Er.lt
  have ne2235 : g ≠ b2231 := by rw [g2231]; exact Nat.ne_of_lt Eg.lt
  have ne2236 : es ≠ b2231 := by rw [g2231]; exact Nat.ne_of_lt As.lt
  have ge2237 : n0 ≤ b2231 := by rw [g2231]; exact Z0
  have old2238 : h0.size ≤ b2231 := by rw [g2231]; exact (Keep.refl h0 []).1
  have ne2239 : b ≠ b2231 := by rw [g2231]; exact Nat.ne_of_lt Bb.1.lt
  have ne2240 : x ≠ b2231 := by rw [g2231]; exact Nat.ne_of_lt Bb.ltx
  have f2241 := Ei.ext E2231
  have f2242 := F1.ext E2231
  have f2243 := F2.ext E2231
  have f2244 := Et.ext E2231
  have f2245 := Fr_.ext E2231
  have f2246 := Er.ext E2231
  have f2247 := G0.ext E2231
  have f2248 := G1.ext E2231
  have f2249 := Sa.ext E2231
  have f2250 := Sx.ext E2231
  have ob2251 := own_B.keep Bb ((Keep.refl _ []).ext E2231) nin0 nin0
  have f2252 := Eg.ext E2231
  have f2253 := Gf.ext E2231
  have f2254 := As.ext E2231
  have k2255 := (Keep.refl h0 []).ext E2231
  have z2256 := Nat.le_trans Z0 E2231.1
  have f2257 : Fld Z h2231 b2231 "java/util/BitSet" "wordsInUse" "I" (.int (0 : Int32)) := D2231 (Or.inl (w41 hw)) (ty := .int) (by decide)
  have f2258 : Fld Z h2231 b2231 "java/util/BitSet" "sizeIsSticky" "Z" (.int (0 : Int32)) := D2231 (Or.inl (w43 hw)) (ty := .boolean) (by decide)
  have f2259 : Fld Z h2231 b2231 "java/util/BitSet" "words" "[J" .null := D2231 (Or.inl (w54 hw)) (ty := (.array .long)) (by decide)
  refine go_dup (pc' := 19) W2231 d34_18 rfl rfl ?_
  refine go_callN (a := b2231) (kc := K6) (argsL := []) (rest := [(.ref b2231)]) (pc' := 22) W2231 (w242 hw) (w37 hw) (w35 hw) (w38 hw) (rm6 E.l Z a0 hw b2231 h2231 n0 z2256 A2231 f2259 f2257 f2258 ge2237) rfl rfl (by decide) pd0 rfl rfl rfl (nb rfl) (nb rfl) (nb rfl) (nb rfl) d34_19 rfl ?_
  rintro _ T2260 h2260 ⟨x2260, rfl, gx2260, so2260, K2260, g2260_0, g2260_1, g2260_2, ax2260⟩ W2260
  have ne2261 : b ≠ x2260 := Nat.ne_of_lt (Nat.lt_of_lt_of_le ob2251.1.lt so2260)
  have ne2262 : x ≠ x2260 := Nat.ne_of_lt (Nat.lt_of_lt_of_le ob2251.ltx so2260)
  have ne2263 : i ≠ x2260 := Nat.ne_of_lt (Nat.lt_of_lt_of_le f2241.lt so2260)
  have ne2264 : t ≠ x2260 := Nat.ne_of_lt (Nat.lt_of_lt_of_le f2244.lt so2260)
  have ne2265 : r ≠ x2260 := Nat.ne_of_lt (Nat.lt_of_lt_of_le f2246.lt so2260)
  have ne2266 : g ≠ x2260 := Nat.ne_of_lt (Nat.lt_of_lt_of_le f2252.lt so2260)
  have ne2267 : es ≠ x2260 := Nat.ne_of_lt (Nat.lt_of_lt_of_le f2254.lt so2260)
  have ne2268 : b2231 ≠ x2260 := Nat.ne_of_lt (Nat.lt_of_lt_of_le A2231.lt so2260)
  have old2269 : h0.size ≤ x2260 := Nat.le_trans k2255.1 so2260
  have f2270 := f2241.keep K2260
  have f2271 := f2242.keep K2260 (ninS ne2232 nin0)
  have f2272 := f2243.keep K2260 (ninS ne2232 nin0)
  have f2273 := f2244.keep K2260
  have f2274 := f2245.keep K2260 (ninS ne2233 nin0)
  have f2275 := f2246.keep K2260
  have f2276 := f2247.keep K2260 (ninS ne2234 nin0)
  have f2277 := f2248.keep K2260 (ninS ne2234 nin0)
  have ob2279 := own_B.keep ob2251 K2260 (ninS ne2239 nin0) (ninS ne2240 nin0)
  have f2280 := f2252.keep K2260
  have f2281 := f2253.keep K2260 (ninS ne2235 nin0)
  have f2282 := A2231.keep K2260
  have k2286 := k2255.trans K2260 (allS (Or.inr old2238) all0)
  have z2287 := Nat.le_trans z2256 K2260.1
  have f2288 := f2254.keep K2260 (ninS ne2236 nin0)
  have f2289 := Sta.keepN f2249 K2260 (allS (Ns.exa A2231) all0)
  have f2290 := Sta.keepN f2250 K2260 (allS (Ns.exa A2231) all0)
  show Go E _ (Fm E T2260 22 #[.val (.ref i), .val (.int ev), .val (.int z), .val (.int (0 : Int32)), .val (.ref r), .unset] [(.ref b2231)])
  refine go_astore (pc' := 24) (l' := #[.val (.ref i), .val (.int ev), .val (.int z), .val (.int (0 : Int32)), .val (.ref r), .val (.ref b2231)]) W2260 d34_22 rfl rfl rfl ?_
  refine go_aloadN (pc' := 25) W2260 d34_24 rfl rfl rfl ?_
  refine go_getF (pc' := 28) W2260 (host := "") (Or.inl (w217 hw)) Via.refl f2272 d34_25 rfl ?_
  intro T2291 W2291
  refine go_callF (kc := K44) (a := g) (argsL := []) (rest := []) (pc' := 33) W2291 (w243 hw) (w244 hw) (w245 hw) (w288 hw) (w289 hw) (w290 hw) (w291 hw) (w292 hw) (w293 hw) (w294 hw) f2280 (rm44 E.l Z a0 hw g es h2260 n0 z2287 f2281 f2288) (by decide) pd12 rfl rfl rfl (nb rfl) (nb rfl) (nb rfl) (nb rfl) d34_28 rfl ?_
  rintro _ T2292 h2292 ⟨rfl, q2292⟩ W2292
  replace W2292 := W2292.sub q2292
  show Go E _ (Fm E T2292 33 #[.val (.ref i), .val (.int ev), .val (.int z), .val (.int (0 : Int32)), .val (.ref r), .val (.ref b2231)] [(.int (1 : Int32))])
  refine go_if_ne (pt := 64) (pf := 36) W2292 d34_33 (by decide) rfl rfl (fun c33_2293 => ?_) (fun c33_2293 => ?_)
  · -- pc 33 taken
    refine go_aload (pc' := 66) W2292 d34_64 rfl rfl rfl ?_
    refine go_callV (a := r) (kc := K41) (argsL := []) (rest := []) (pc' := 69) W2292 (w273 hw) (w274 hw) (nf_sel W2292 (w276 hw)) (w276 hw) (w275 hw) (w28 hw) (w277 hw) f2275 (rm41 E.l Z a0 hw r s h2260 n0 z2287 f2276) (by decide) pd19 rfl rfl rfl (nb rfl) (nb rfl) (nb rfl) (nb rfl) d34_66 rfl ?_
    rintro _ T2294 h2294 ⟨rfl, q2294⟩ W2294
    replace W2294 := W2294.sub q2294
    show Go E _ (Fm E T2294 69 #[.val (.ref i), .val (.int ev), .val (.int z), .val (.int (0 : Int32)), .val (.ref r), .val (.ref b2231)] [(.int s)])
    refine go_iloadN (pc' := 70) W2294 d34_69 rfl rfl ?_
    refine go_icmp_lt (pt := 85) (pf := 73) W2294 d34_70 (by decide) rfl rfl (fun c70_2295 => ?_) (fun c70_2295 => ?_)
    · -- pc 70 taken
      refine go_iconst (pc' := 86) (z := 0) W2294 d34_85 rfl rfl ?_
      exact go_retI W2294 (t := .boolean) rfl (by simp) rfl d34_86 (nb rfl) (nb rfl) (congrArg (fun z => some (Value.int z)) (own_r1 _ _ _ _ c70_2295))
    · -- pc 70 not taken
      refine go_aload (pc' := 75) W2294 d34_73 rfl rfl rfl ?_
      refine go_callV (a := b2231) (kc := K43) (argsL := []) (rest := []) (pc' := 78) W2294 (w282 hw) (w283 hw) (nf_sel W2294 (w285 hw)) (w285 hw) (w284 hw) (w35 hw) (w286 hw) f2282 (rm43 E.l Z a0 hw b2231 (0 : Int32) h2260 n0 z2287 g2260_1) (by decide) pd12 rfl rfl rfl (nb rfl) (nb rfl) (nb rfl) (nb rfl) d34_75 rfl ?_
      rintro _ T2296 h2296 ⟨rfl, q2296⟩ W2296
      replace W2296 := W2296.sub q2296
      show Go E _ (Fm E T2296 78 #[.val (.ref i), .val (.int ev), .val (.int z), .val (.int (0 : Int32)), .val (.ref r), .val (.ref b2231)] [(.int (own_e (0 : Int32)))])
      refine go_if_eq (pt := 85) (pf := 81) W2296 d34_78 (by decide) rfl rfl (fun c78_2297 => ?_) (fun c78_2297 => ?_)
      · exact absurd c78_2297 (by decide)
      · -- pc 78 not taken
        refine go_iconst (pc' := 82) (z := 1) W2296 d34_81 rfl rfl ?_
        refine go_goto (pc' := 86) W2296 d34_82 (by decide) rfl ?_
        exact go_retI W2296 (t := .boolean) rfl (by simp) rfl d34_86 (nb rfl) (nb rfl) (congrArg (fun z => some (Value.int z)) (own_r3 (r := 0) c70_2295 (by simp [own_an0]) (by decide)))
  · exact absurd c33_2293 (by decide)
set_option maxRecDepth 65536 in
set_option maxHeartbeats 4000000 in
theorem rmSu_N01 (l : Launch) (Z : State) (a0 : Array Value) (hw : Hw a0 Z) (i : Addr) (ev : Int32) (z : Int32) (t g r b x xo f : Addr) (s : Int32) (u : Nat) (p' q' : Int64) (es : Addr) (h0 : Heap) (n0 : Nat) (Z0 : n0 ≤ h0.size) (Ei : Exa Z h0 i "com/example/slotwright/slotwright/EnrolmentInstance") (F1 : Fld Z h0 i "com/example/slotwright/slotwright/EnrolmentInstance" "rooms" "Ljava/util/List;" (.ref t)) (F2 : Fld Z h0 i "com/example/slotwright/slotwright/EnrolmentInstance" "eventFeatures" "Ljava/util/List;" (.ref g)) (Et : Exa Z h0 t "java/util/ImmutableCollections$List12") (Fr_ : Fld Z h0 t "java/util/ImmutableCollections$List12" "e1" "Ljava/lang/Object;" (.ref r)) (Er : Exa Z h0 r "com/example/slotwright/slotwright/EnrolmentInstance$Room") (G0 : Fld Z h0 r "com/example/slotwright/slotwright/EnrolmentInstance$Room" "size" "I" (.int s)) (G1 : Fld Z h0 r "com/example/slotwright/slotwright/EnrolmentInstance$Room" "features" "Ljava/util/BitSet;" (.ref b)) (Bb : own_B Z h0 b x u p' q') (Sa : Sta Z h0 "java/util/BitSet" "$assertionsDisabled" "Z" (.int 1)) (Sx : Sta Z h0 "java/util/ImmutableCollections" "EMPTY" "Ljava/lang/Object;" (.ref xo)) (nr : r ≠ xo) (nf : f ≠ xo) (Eg : Exa Z h0 g "java/util/ImmutableCollections$ListN") (Gf : Fld Z h0 g "java/util/ImmutableCollections$ListN" "elements" "[Ljava/lang/Object;" (.ref es)) (As : Af Z h0 es (.object OB) 0 (fun _ => .null)) :
    Ct l Z K34 #[(.ref i), (.int ev), (.int z), (.int (1 : Int32))] h0 n0 (fun v h => v = some (.int (own_res s z 0 0 p' q'))) := by
  refine Ct.of (Ls := #[.val (.ref i), .val (.int ev), .val (.int z), .val (.int (1 : Int32)), .unset, .unset]) (plainFor_of_name (by first | decide +kernel | (simp [plainName, overriddenIn]; done))) (fun m => by first | rfl | (simp [entryFrame, mkF, argsToLocals, Value.category]; done)) ?_
  intro E T W
  refine go_aloadN (pc' := 1) W d34_0 rfl rfl rfl ?_
  refine go_getF (pc' := 4) W (host := "") (Or.inl (w215 hw)) Via.refl F1 d34_1 rfl ?_
  intro T2298 W2298
  refine go_iloadN (pc' := 5) W2298 d34_4 rfl rfl ?_
  refine go_callF (kc := K35) (a := t) (argsL := [(.int (1 : Int32))]) (rest := []) (pc' := 10) W2298 (w230 hw) (w231 hw) (w232 hw) (w233 hw) (w234 hw) (w235 hw) (w236 hw) (w237 hw) (w188 hw) (w238 hw) Et (rmGet_1 E.l Z a0 hw t r xo h0 n0 Z0 Fr_ Sx nr) (by decide) pd16 rfl rfl rfl (nb rfl) (nb rfl) (nb rfl) (nb rfl) d34_5 rfl ?_
  rintro _ T2299 h2299 ⟨rfl, q2299⟩ W2299
  replace W2299 := W2299.sub q2299
  show Go E _ (Fm E T2299 10 #[.val (.ref i), .val (.int ev), .val (.int z), .val (.int (1 : Int32)), .unset, .unset] [(.ref r)])
  refine go_castY (pc' := 13) W2299 (w239 hw) (Ins.self Er) d34_10 rfl ?_
  intro T2300 W2300
  refine go_astore (pc' := 15) (l' := #[.val (.ref i), .val (.int ev), .val (.int z), .val (.int (1 : Int32)), .val (.ref r), .unset]) W2300 d34_13 rfl rfl rfl ?_
  refine go_new (pc' := 18) W2300 (w241 hw) (w34 hw) (w35 hw) d34_15 (nb rfl) (nb rfl) rfl ?_
  intro T2301 h2301 b2301 g2301 W2301 E2301 A2301 D2301 M2301
  have ne2302 : i ≠ b2301 := by rw [g2301]; exact Nat.ne_of_lt Ei.lt
  have ne2303 : t ≠ b2301 := by rw [g2301]; exact Nat.ne_of_lt Et.lt
  have ne2304 : r ≠ b2301 := by rw [g2301]; exact Nat.ne_of_lt Er.lt
  have ne2305 : g ≠ b2301 := by rw [g2301]; exact Nat.ne_of_lt Eg.lt
  have ne2306 : es ≠ b2301 := by rw [g2301]; exact Nat.ne_of_lt As.lt
  have ge2307 : n0 ≤ b2301 := by rw [g2301]; exact Z0
  have old2308 : h0.size ≤ b2301 := by rw [g2301]; exact (Keep.refl h0 []).1
  have ne2309 : b ≠ b2301 := by rw [g2301]; exact Nat.ne_of_lt Bb.1.lt
  have ne2310 : x ≠ b2301 := by rw [g2301]; exact Nat.ne_of_lt Bb.ltx
  have f2311 := Ei.ext E2301
  have f2312 := F1.ext E2301
  have f2313 := F2.ext E2301
  have f2314 := Et.ext E2301
  have f2315 := Fr_.ext E2301
  have f2316 := Er.ext E2301
  have f2317 := G0.ext E2301
  have f2318 := G1.ext E2301
  have f2319 := Sa.ext E2301
  have f2320 := Sx.ext E2301
  have ob2321 := own_B.keep Bb ((Keep.refl _ []).ext E2301) nin0 nin0
  have f2322 := Eg.ext E2301
  have f2323 := Gf.ext E2301
  have f2324 := As.ext E2301
  have k2325 := (Keep.refl h0 []).ext E2301
  have z2326 := Nat.le_trans Z0 E2301.1
  have f2327 : Fld Z h2301 b2301 "java/util/BitSet" "wordsInUse" "I" (.int (0 : Int32)) := D2301 (Or.inl (w41 hw)) (ty := .int) (by decide)
  have f2328 : Fld Z h2301 b2301 "java/util/BitSet" "sizeIsSticky" "Z" (.int (0 : Int32)) := D2301 (Or.inl (w43 hw)) (ty := .boolean) (by decide)
  have f2329 : Fld Z h2301 b2301 "java/util/BitSet" "words" "[J" .null := D2301 (Or.inl (w54 hw)) (ty := (.array .long)) (by decide)
  refine go_dup (pc' := 19) W2301 d34_18 rfl rfl ?_
  refine go_callN (a := b2301) (kc := K6) (argsL := []) (rest := [(.ref b2301)]) (pc' := 22) W2301 (w242 hw) (w37 hw) (w35 hw) (w38 hw) (rm6 E.l Z a0 hw b2301 h2301 n0 z2326 A2301 f2329 f2327 f2328 ge2307) rfl rfl (by decide) pd0 rfl rfl rfl (nb rfl) (nb rfl) (nb rfl) (nb rfl) d34_19 rfl ?_
  rintro _ T2330 h2330 ⟨x2330, rfl, gx2330, so2330, K2330, g2330_0, g2330_1, g2330_2, ax2330⟩ W2330
  have ne2331 : b ≠ x2330 := Nat.ne_of_lt (Nat.lt_of_lt_of_le ob2321.1.lt so2330)
  have ne2332 : x ≠ x2330 := Nat.ne_of_lt (Nat.lt_of_lt_of_le ob2321.ltx so2330)
  have ne2333 : i ≠ x2330 := Nat.ne_of_lt (Nat.lt_of_lt_of_le f2311.lt so2330)
  have ne2334 : t ≠ x2330 := Nat.ne_of_lt (Nat.lt_of_lt_of_le f2314.lt so2330)
  have ne2335 : r ≠ x2330 := Nat.ne_of_lt (Nat.lt_of_lt_of_le f2316.lt so2330)
  have ne2336 : g ≠ x2330 := Nat.ne_of_lt (Nat.lt_of_lt_of_le f2322.lt so2330)
  have ne2337 : es ≠ x2330 := Nat.ne_of_lt (Nat.lt_of_lt_of_le f2324.lt so2330)
  have ne2338 : b2301 ≠ x2330 := Nat.ne_of_lt (Nat.lt_of_lt_of_le A2301.lt so2330)
  have old2339 : h0.size ≤ x2330 := Nat.le_trans k2325.1 so2330
  have f2340 := f2311.keep K2330
  have f2341 := f2312.keep K2330 (ninS ne2302 nin0)
  have f2342 := f2313.keep K2330 (ninS ne2302 nin0)
  have f2343 := f2314.keep K2330
  have f2344 := f2315.keep K2330 (ninS ne2303 nin0)
  have f2345 := f2316.keep K2330
  have f2346 := f2317.keep K2330 (ninS ne2304 nin0)
  have f2347 := f2318.keep K2330 (ninS ne2304 nin0)
  have ob2349 := own_B.keep ob2321 K2330 (ninS ne2309 nin0) (ninS ne2310 nin0)
  have f2350 := f2322.keep K2330
  have f2351 := f2323.keep K2330 (ninS ne2305 nin0)
  have f2352 := A2301.keep K2330
  have k2356 := k2325.trans K2330 (allS (Or.inr old2308) all0)
  have z2357 := Nat.le_trans z2326 K2330.1
  have f2358 := f2324.keep K2330 (ninS ne2306 nin0)
  have f2359 := Sta.keepN f2319 K2330 (allS (Ns.exa A2301) all0)
  have f2360 := Sta.keepN f2320 K2330 (allS (Ns.exa A2301) all0)
  show Go E _ (Fm E T2330 22 #[.val (.ref i), .val (.int ev), .val (.int z), .val (.int (1 : Int32)), .val (.ref r), .unset] [(.ref b2301)])
  refine go_astore (pc' := 24) (l' := #[.val (.ref i), .val (.int ev), .val (.int z), .val (.int (1 : Int32)), .val (.ref r), .val (.ref b2301)]) W2330 d34_22 rfl rfl rfl ?_
  refine go_aloadN (pc' := 25) W2330 d34_24 rfl rfl rfl ?_
  refine go_getF (pc' := 28) W2330 (host := "") (Or.inl (w217 hw)) Via.refl f2342 d34_25 rfl ?_
  intro T2361 W2361
  refine go_callF (kc := K44) (a := g) (argsL := []) (rest := []) (pc' := 33) W2361 (w243 hw) (w244 hw) (w245 hw) (w288 hw) (w289 hw) (w290 hw) (w291 hw) (w292 hw) (w293 hw) (w294 hw) f2350 (rm44 E.l Z a0 hw g es h2330 n0 z2357 f2351 f2358) (by decide) pd12 rfl rfl rfl (nb rfl) (nb rfl) (nb rfl) (nb rfl) d34_28 rfl ?_
  rintro _ T2362 h2362 ⟨rfl, q2362⟩ W2362
  replace W2362 := W2362.sub q2362
  show Go E _ (Fm E T2362 33 #[.val (.ref i), .val (.int ev), .val (.int z), .val (.int (1 : Int32)), .val (.ref r), .val (.ref b2301)] [(.int (1 : Int32))])
  refine go_if_ne (pt := 64) (pf := 36) W2362 d34_33 (by decide) rfl rfl (fun c33_2363 => ?_) (fun c33_2363 => ?_)
  · -- pc 33 taken
    refine go_aload (pc' := 66) W2362 d34_64 rfl rfl rfl ?_
    refine go_callV (a := r) (kc := K41) (argsL := []) (rest := []) (pc' := 69) W2362 (w273 hw) (w274 hw) (nf_sel W2362 (w276 hw)) (w276 hw) (w275 hw) (w28 hw) (w277 hw) f2345 (rm41 E.l Z a0 hw r s h2330 n0 z2357 f2346) (by decide) pd19 rfl rfl rfl (nb rfl) (nb rfl) (nb rfl) (nb rfl) d34_66 rfl ?_
    rintro _ T2364 h2364 ⟨rfl, q2364⟩ W2364
    replace W2364 := W2364.sub q2364
    show Go E _ (Fm E T2364 69 #[.val (.ref i), .val (.int ev), .val (.int z), .val (.int (1 : Int32)), .val (.ref r), .val (.ref b2301)] [(.int s)])
    refine go_iloadN (pc' := 70) W2364 d34_69 rfl rfl ?_
    refine go_icmp_lt (pt := 85) (pf := 73) W2364 d34_70 (by decide) rfl rfl (fun c70_2365 => ?_) (fun c70_2365 => ?_)
    · -- pc 70 taken
      refine go_iconst (pc' := 86) (z := 0) W2364 d34_85 rfl rfl ?_
      exact go_retI W2364 (t := .boolean) rfl (by simp) rfl d34_86 (nb rfl) (nb rfl) (congrArg (fun z => some (Value.int z)) (own_r1 _ _ _ _ c70_2365))
    · -- pc 70 not taken
      refine go_aload (pc' := 75) W2364 d34_73 rfl rfl rfl ?_
      refine go_callV (a := b2301) (kc := K43) (argsL := []) (rest := []) (pc' := 78) W2364 (w282 hw) (w283 hw) (nf_sel W2364 (w285 hw)) (w285 hw) (w284 hw) (w35 hw) (w286 hw) f2352 (rm43 E.l Z a0 hw b2301 (0 : Int32) h2330 n0 z2357 g2330_1) (by decide) pd12 rfl rfl rfl (nb rfl) (nb rfl) (nb rfl) (nb rfl) d34_75 rfl ?_
      rintro _ T2366 h2366 ⟨rfl, q2366⟩ W2366
      replace W2366 := W2366.sub q2366
      show Go E _ (Fm E T2366 78 #[.val (.ref i), .val (.int ev), .val (.int z), .val (.int (1 : Int32)), .val (.ref r), .val (.ref b2301)] [(.int (own_e (0 : Int32)))])
      refine go_if_eq (pt := 85) (pf := 81) W2366 d34_78 (by decide) rfl rfl (fun c78_2367 => ?_) (fun c78_2367 => ?_)
      · exact absurd c78_2367 (by decide)
      · -- pc 78 not taken
        refine go_iconst (pc' := 82) (z := 1) W2366 d34_81 rfl rfl ?_
        refine go_goto (pc' := 86) W2366 d34_82 (by decide) rfl ?_
        exact go_retI W2366 (t := .boolean) rfl (by simp) rfl d34_86 (nb rfl) (nb rfl) (congrArg (fun z => some (Value.int z)) (own_r3 (r := 0) c70_2365 (by simp [own_an0]) (by decide)))
  · exact absurd c33_2363 (by decide)
theorem own_01 (x : Int32) : x &&& 1 = 0 ∨ x &&& 1 = 1 := by
  have h := c_and x 1 (by decide)
  simp only [Int32.reduceToInt] at h
  rcases (by omega : (x &&& 1).toInt = 0 ∨ (x &&& 1).toInt = 1) with q | q
  · exact Or.inl (Int32.toInt_inj.mp q)
  · exact Or.inr (Int32.toInt_inj.mp q)
theorem own_16 (x : Int32) : ∃ k : Fin 16, x &&& 15 = Int32.ofNat k.val := by
  have h := c_and x 15 (by decide)
  simp only [Int32.reduceToInt] at h
  refine ⟨⟨(x &&& 15).toInt.toNat, by omega⟩, Int32.toInt_inj.mp ?_⟩
  have e := Int32.toInt_ofNat_small (n := (x &&& 15).toInt.toNat) (by omega)
  show (x &&& 15).toInt = (Int32.ofNat (x &&& 15).toInt.toNat).toInt
  rw [e]; omega
theorem own_all : ∀ e r : Fin 16, own_an (own_p (Int32.ofNat e.val)) (own_qm (Int32.ofNat e.val)) (own_p (Int32.ofNat r.val)) (own_qm (Int32.ofNat r.val)) ↔ Int32.ofNat e.val &&& (Int32.ofNat r.val ^^^ -1) = 0 := by decide +kernel
theorem own_fin (x y : Int32) : own_an (own_p (x &&& 15)) (own_qm (x &&& 15)) (own_p (y &&& 15)) (own_qm (y &&& 15)) ↔ (x &&& 15) &&& ((y &&& 15) ^^^ -1) = 0 := by
  obtain ⟨i, hi⟩ := own_16 x
  obtain ⟨j, hj⟩ := own_16 y
  rw [hi, hj]; exact own_all i j
theorem own_B.ins {Z : State} {h : Heap} {a0 : Array Value} {b x : Addr} {u : Nat} {p q : Int64} (hw : Hw a0 Z) (B : own_B Z h b x u p q) : Ins Z h b OB true := Ins.of_exa B.1 (w120 hw)
theorem own_rA {s z : Int32} {p q p' q' : Int64} {P : Prop} (h : ¬ s < z) (hr : own_an p q p' q' ↔ P) (e : P) : own_res s z p q p' q' = 1 := by rw [own_res, if_neg h, if_pos (hr.mpr e)]
theorem own_rB {s z : Int32} {p q p' q' : Int64} {P : Prop} (h : ¬ s < z) (hr : own_an p q p' q' ↔ P) (e : ¬ P) : own_res s z p q p' q' = 0 := by rw [own_res, if_neg h, if_neg (fun a => e (hr.mp a))]
set_option maxRecDepth 65536 in
set_option maxHeartbeats 4000000 in
theorem rm0 (l : Launch) (Z : State) (a0 : Array Value) (hw : Hw a0 Z) (x0 : Int32) (x1 : Int32) (x2 : Int32) (x3 : Int32) (de el es xo mr : Addr) (h0 : Heap) (n0 : Nat) (Z0 : n0 ≤ h0.size) (Sd : Sta Z h0 "java/util/ArrayList" "DEFAULTCAPACITY_EMPTY_ELEMENTDATA" "[Ljava/lang/Object;" (.ref de)) (Sa : Sta Z h0 "java/util/BitSet" "$assertionsDisabled" "Z" (.int 1)) (Sl : Sta Z h0 "java/util/ImmutableCollections" "EMPTY_LIST" "Ljava/util/ImmutableCollections$ListN;" (.ref el)) (Sx : Sta Z h0 "java/util/ImmutableCollections" "EMPTY" "Ljava/lang/Object;" (.ref xo)) (Ad : Af Z h0 de (.object OB) 0 (fun _ => .null)) (Xl : Exa Z h0 el "java/util/ImmutableCollections$ListN") (Fl : Fld Z h0 el "java/util/ImmutableCollections$ListN" "elements" "[Ljava/lang/Object;" (.ref es)) (As : Af Z h0 es (.object OB) 0 (fun _ => .null)) (Xo : Exa Z h0 xo "java/lang/Object") (Mr : Mm Z OA mr) :
    Ct l Z K0 #[(.int x0), (.int x1), (.int x2), (.int x3)] h0 n0 (fun v h => v = some (.int 1)) := by
  refine Ct.of (Ls := #[.val (.int x0), .val (.int x1), .val (.int x2), .val (.int x3), .unset, .unset, .unset, .unset, .unset, .unset, .unset, .unset, .unset, .unset, .unset, .unset, .unset, .unset, .unset, .unset]) (plainFor_of_name (by first | decide +kernel | (simp [plainName, overriddenIn]; done))) (fun m => by show entryFrame m #[(.int x0), (.int x1), (.int x2), (.int x3)] 20 = _; simp [entryFrame, mkF, argsToLocals, Value.category]) ?_
  intro E T W
  refine go_iloadN (pc' := 1) W d0_0 rfl rfl ?_
  refine go_bipush (pc' := 3) (z := 15) W d0_1 (by decide) rfl ?_
  refine go_iand (pc' := 4) W d0_3 rfl ?_
  refine go_istore (pc' := 6) (l' := #[.val (.int x0), .val (.int x1), .val (.int x2), .val (.int x3), .val (.int (x3 &&& (15 : Int32))), .unset, .unset, .unset, .unset, .unset, .unset, .unset, .unset, .unset, .unset, .unset, .unset, .unset, .unset, .unset]) W d0_4 rfl rfl ?_
  refine go_iloadN (pc' := 7) W d0_6 rfl rfl ?_
  refine go_iconst (pc' := 8) (z := 4) W d0_7 rfl rfl ?_
  refine go_iushr (pc' := 9) W d0_8 rfl ?_
  refine go_bipush (pc' := 11) (z := 15) W d0_9 (by decide) rfl ?_
  refine go_iand (pc' := 12) W d0_11 rfl ?_
  refine go_istore (pc' := 14) (l' := #[.val (.int x0), .val (.int x1), .val (.int x2), .val (.int x3), .val (.int (x3 &&& (15 : Int32))), .val (.int (((x3.toUInt32 >>> ((4 : Int32) &&& 31).toUInt32).toInt32) &&& (15 : Int32))), .unset, .unset, .unset, .unset, .unset, .unset, .unset, .unset, .unset, .unset, .unset, .unset, .unset, .unset]) W d0_12 rfl rfl ?_
  refine go_iloadN (pc' := 15) W d0_14 rfl rfl ?_
  refine go_bipush (pc' := 17) (z := 8) W d0_15 (by decide) rfl ?_
  refine go_iushr (pc' := 18) W d0_17 rfl ?_
  refine go_bipush (pc' := 20) (z := 15) W d0_18 (by decide) rfl ?_
  refine go_iand (pc' := 21) W d0_20 rfl ?_
  refine go_istore (pc' := 23) (l' := #[.val (.int x0), .val (.int x1), .val (.int x2), .val (.int x3), .val (.int (x3 &&& (15 : Int32))), .val (.int (((x3.toUInt32 >>> ((4 : Int32) &&& 31).toUInt32).toInt32) &&& (15 : Int32))), .val (.int (((x3.toUInt32 >>> ((8 : Int32) &&& 31).toUInt32).toInt32) &&& (15 : Int32))), .unset, .unset, .unset, .unset, .unset, .unset, .unset, .unset, .unset, .unset, .unset, .unset, .unset]) W d0_21 rfl rfl ?_
  refine go_iloadN (pc' := 24) W d0_23 rfl rfl ?_
  refine go_bipush (pc' := 26) (z := 12) W d0_24 (by decide) rfl ?_
  refine go_iushr (pc' := 27) W d0_26 rfl ?_
  refine go_bipush (pc' := 29) (z := 15) W d0_27 (by decide) rfl ?_
  refine go_iand (pc' := 30) W d0_29 rfl ?_
  refine go_istore (pc' := 32) (l' := #[.val (.int x0), .val (.int x1), .val (.int x2), .val (.int x3), .val (.int (x3 &&& (15 : Int32))), .val (.int (((x3.toUInt32 >>> ((4 : Int32) &&& 31).toUInt32).toInt32) &&& (15 : Int32))), .val (.int (((x3.toUInt32 >>> ((8 : Int32) &&& 31).toUInt32).toInt32) &&& (15 : Int32))), .val (.int (((x3.toUInt32 >>> ((12 : Int32) &&& 31).toUInt32).toInt32) &&& (15 : Int32))), .unset, .unset, .unset, .unset, .unset, .unset, .unset, .unset, .unset, .unset, .unset, .unset]) W d0_30 rfl rfl ?_
  refine go_iloadN (pc' := 33) W d0_32 rfl rfl ?_
  refine go_bipush (pc' := 35) (z := 16) W d0_33 (by decide) rfl ?_
  refine go_iushr (pc' := 36) W d0_35 rfl ?_
  refine go_iconst (pc' := 37) (z := 1) W d0_36 rfl rfl ?_
  refine go_iand (pc' := 38) W d0_37 rfl ?_
  refine go_if_eq (pt := 45) (pf := 41) W d0_38 (by decide) rfl rfl (fun c38_2368 => ?_) (fun c38_2368 => ?_)
  · -- pc 38 taken
    refine go_iconst (pc' := 46) (z := 0) W d0_45 rfl rfl ?_
    refine go_istore (pc' := 48) (l' := #[.val (.int x0), .val (.int x1), .val (.int x2), .val (.int x3), .val (.int (x3 &&& (15 : Int32))), .val (.int (((x3.toUInt32 >>> ((4 : Int32) &&& 31).toUInt32).toInt32) &&& (15 : Int32))), .val (.int (((x3.toUInt32 >>> ((8 : Int32) &&& 31).toUInt32).toInt32) &&& (15 : Int32))), .val (.int (((x3.toUInt32 >>> ((12 : Int32) &&& 31).toUInt32).toInt32) &&& (15 : Int32))), .val (.int (0 : Int32)), .unset, .unset, .unset, .unset, .unset, .unset, .unset, .unset, .unset, .unset, .unset]) W d0_46 rfl rfl ?_
    refine go_iloadN (pc' := 49) W d0_48 rfl rfl ?_
    refine go_bipush (pc' := 51) (z := 17) W d0_49 (by decide) rfl ?_
    refine go_iushr (pc' := 52) W d0_51 rfl ?_
    refine go_iconst (pc' := 53) (z := 1) W d0_52 rfl rfl ?_
    refine go_iand (pc' := 54) W d0_53 rfl ?_
    refine go_istore (pc' := 56) (l' := #[.val (.int x0), .val (.int x1), .val (.int x2), .val (.int x3), .val (.int (x3 &&& (15 : Int32))), .val (.int (((x3.toUInt32 >>> ((4 : Int32) &&& 31).toUInt32).toInt32) &&& (15 : Int32))), .val (.int (((x3.toUInt32 >>> ((8 : Int32) &&& 31).toUInt32).toInt32) &&& (15 : Int32))), .val (.int (((x3.toUInt32 >>> ((12 : Int32) &&& 31).toUInt32).toInt32) &&& (15 : Int32))), .val (.int (0 : Int32)), .val (.int (((x3.toUInt32 >>> ((17 : Int32) &&& 31).toUInt32).toInt32) &&& (1 : Int32))), .unset, .unset, .unset, .unset, .unset, .unset, .unset, .unset, .unset, .unset]) W d0_54 rfl rfl ?_
    refine go_iloadN (pc' := 57) W d0_56 rfl rfl ?_
    refine go_bipush (pc' := 59) (z := 18) W d0_57 (by decide) rfl ?_
    refine go_iushr (pc' := 60) W d0_59 rfl ?_
    refine go_iconst (pc' := 61) (z := 1) W d0_60 rfl rfl ?_
    refine go_iand (pc' := 62) W d0_61 rfl ?_
    refine go_istore (pc' := 64) (l' := #[.val (.int x0), .val (.int x1), .val (.int x2), .val (.int x3), .val (.int (x3 &&& (15 : Int32))), .val (.int (((x3.toUInt32 >>> ((4 : Int32) &&& 31).toUInt32).toInt32) &&& (15 : Int32))), .val (.int (((x3.toUInt32 >>> ((8 : Int32) &&& 31).toUInt32).toInt32) &&& (15 : Int32))), .val (.int (((x3.toUInt32 >>> ((12 : Int32) &&& 31).toUInt32).toInt32) &&& (15 : Int32))), .val (.int (0 : Int32)), .val (.int (((x3.toUInt32 >>> ((17 : Int32) &&& 31).toUInt32).toInt32) &&& (1 : Int32))), .val (.int (((x3.toUInt32 >>> ((18 : Int32) &&& 31).toUInt32).toInt32) &&& (1 : Int32))), .unset, .unset, .unset, .unset, .unset, .unset, .unset, .unset, .unset]) W d0_62 rfl rfl ?_
    refine go_new (pc' := 67) W (w0 hw) (w1 hw) (w2 hw) d0_64 (nb rfl) (nb rfl) rfl ?_
    intro T2369 h2369 b2369 g2369 W2369 E2369 A2369 D2369 M2369
    have ne2370 : de ≠ b2369 := by rw [g2369]; exact Nat.ne_of_lt Ad.lt
    have ne2371 : el ≠ b2369 := by rw [g2369]; exact Nat.ne_of_lt Xl.lt
    have ne2372 : es ≠ b2369 := by rw [g2369]; exact Nat.ne_of_lt As.lt
    have ge2373 : n0 ≤ b2369 := by rw [g2369]; exact Z0
    have old2374 : h0.size ≤ b2369 := by rw [g2369]; exact (Keep.refl h0 []).1
    have f2375 := Ad.ext E2369
    have f2376 := Xl.ext E2369
    have f2377 := Fl.ext E2369
    have f2378 := As.ext E2369
    have k2379 := (Keep.refl h0 []).ext E2369
    have z2380 := Nat.le_trans Z0 E2369.1
    have f2381 : Fld Z h2369 b2369 "java/util/AbstractList" "modCount" "I" (.int (0 : Int32)) := D2369 (Or.inl (w22 hw)) (ty := .int) (by decide)
    have f2382 : Fld Z h2369 b2369 "java/util/ArrayList" "elementData" "[Ljava/lang/Object;" .null := D2369 (Or.inl (w25 hw)) (ty := (.array (.object "java/lang/Object"))) (by decide)
    have f2383 : Fld Z h2369 b2369 "java/util/ArrayList" "size" "I" (.int (0 : Int32)) := D2369 (Or.inl (w97 hw)) (ty := .int) (by decide)
    refine go_dup (pc' := 68) W2369 d0_67 rfl rfl ?_
    refine go_callN (a := b2369) (kc := K1) (argsL := []) (rest := [(.ref b2369)]) (pc' := 71) W2369 (w3 hw) (w4 hw) (w2 hw) (w5 hw) (rm1 E.l Z a0 hw b2369 de h2369 n0 z2380 A2369 f2381 f2382 f2383 ge2373 (Sta.kept Sd k2379)) rfl rfl (by decide) pd0 rfl rfl rfl (nb rfl) (nb rfl) (nb rfl) (nb rfl) d0_68 rfl ?_
    rintro _ T2384 h2384 ⟨rfl, K2384, g2384_0, g2384_1, g2384_2⟩ W2384
    have f2385 := f2376.keep K2384
    have f2386 := f2377.keep K2384 (ninS ne2371 nin0)
    have f2387 := A2369.keep K2384
    have k2391 := k2379.trans K2384 (allS (Or.inr old2374) all0)
    have z2392 := Nat.le_trans z2380 K2384.1
    have f2393 := f2375.keep K2384 (ninS ne2370 nin0)
    have f2394 := f2378.keep K2384 (ninS ne2372 nin0)
    show Go E _ (Fm E T2384 71 #[.val (.int x0), .val (.int x1), .val (.int x2), .val (.int x3), .val (.int (x3 &&& (15 : Int32))), .val (.int (((x3.toUInt32 >>> ((4 : Int32) &&& 31).toUInt32).toInt32) &&& (15 : Int32))), .val (.int (((x3.toUInt32 >>> ((8 : Int32) &&& 31).toUInt32).toInt32) &&& (15 : Int32))), .val (.int (((x3.toUInt32 >>> ((12 : Int32) &&& 31).toUInt32).toInt32) &&& (15 : Int32))), .val (.int (0 : Int32)), .val (.int (((x3.toUInt32 >>> ((17 : Int32) &&& 31).toUInt32).toInt32) &&& (1 : Int32))), .val (.int (((x3.toUInt32 >>> ((18 : Int32) &&& 31).toUInt32).toInt32) &&& (1 : Int32))), .unset, .unset, .unset, .unset, .unset, .unset, .unset, .unset, .unset] [(.ref b2369)])
    refine go_astore (pc' := 73) (l' := #[.val (.int x0), .val (.int x1), .val (.int x2), .val (.int x3), .val (.int (x3 &&& (15 : Int32))), .val (.int (((x3.toUInt32 >>> ((4 : Int32) &&& 31).toUInt32).toInt32) &&& (15 : Int32))), .val (.int (((x3.toUInt32 >>> ((8 : Int32) &&& 31).toUInt32).toInt32) &&& (15 : Int32))), .val (.int (((x3.toUInt32 >>> ((12 : Int32) &&& 31).toUInt32).toInt32) &&& (15 : Int32))), .val (.int (0 : Int32)), .val (.int (((x3.toUInt32 >>> ((17 : Int32) &&& 31).toUInt32).toInt32) &&& (1 : Int32))), .val (.int (((x3.toUInt32 >>> ((18 : Int32) &&& 31).toUInt32).toInt32) &&& (1 : Int32))), .val (.ref b2369), .unset, .unset, .unset, .unset, .unset, .unset, .unset, .unset]) W2384 d0_71 rfl rfl rfl ?_
    refine go_aload (pc' := 75) W2384 d0_73 rfl rfl rfl ?_
    refine go_new (pc' := 78) W2384 (w26 hw) (w27 hw) (w28 hw) d0_75 (nb rfl) (nb rfl) rfl ?_
    intro T2395 h2395 b2395 g2395 W2395 E2395 A2395 D2395 M2395
    have ne2396 : el ≠ b2395 := by rw [g2395]; exact Nat.ne_of_lt f2385.lt
    have ne2397 : b2369 ≠ b2395 := by rw [g2395]; exact Nat.ne_of_lt f2387.lt
    have ne2398 : de ≠ b2395 := by rw [g2395]; exact Nat.ne_of_lt f2393.lt
    have ne2399 : es ≠ b2395 := by rw [g2395]; exact Nat.ne_of_lt f2394.lt
    have ge2400 : n0 ≤ b2395 := by rw [g2395]; exact z2392
    have old2401 : h0.size ≤ b2395 := by rw [g2395]; exact k2391.1
    have f2402 := f2385.ext E2395
    have f2403 := f2386.ext E2395
    have f2404 := f2387.ext E2395
    have f2405 := f2393.ext E2395
    have f2406 := f2394.ext E2395
    have f2407 := g2384_0.ext E2395
    have f2408 := g2384_1.ext E2395
    have f2409 := g2384_2.ext E2395
    have k2410 := k2391.ext E2395
    have z2411 := Nat.le_trans z2392 E2395.1
    have f2412 : Fld Z h2395 b2395 "com/example/slotwright/slotwright/EnrolmentInstance$Room" "size" "I" (.int (0 : Int32)) := D2395 (Or.inr (w86 hw)) (ty := .int) (by decide)
    have f2413 : Fld Z h2395 b2395 "com/example/slotwright/slotwright/EnrolmentInstance$Room" "features" "Ljava/util/BitSet;" .null := D2395 (Or.inr (w88 hw)) (ty := (.object "java/util/BitSet")) (by decide)
    refine go_dup (pc' := 79) W2395 d0_78 rfl rfl ?_
    refine go_iloadN (pc' := 80) W2395 d0_79 rfl rfl ?_
    refine go_iload (pc' := 82) W2395 d0_80 rfl rfl ?_
    refine go_callS (kc := K5) (argsL := [(.int (x3 &&& (15 : Int32)))]) (rest := [(.int x0), (.ref b2395), (.ref b2395), (.ref b2369)]) (pc' := 85) W2395 (w29 hw) (w30 hw) (w31 hw) (w32 hw) (rm5 E.l Z a0 hw (x3 &&& (15 : Int32)) h2395 n0 z2411 (Sta.kept Sa k2410)) (by decide) pd20 rfl rfl rfl (nb rfl) (nb rfl) (nb rfl) (nb rfl) d0_82 rfl ?_
    rintro _ T2414 h2414 ⟨b2414, x2414, rfl, gb2414, sb2414, gx2414, sx2414, nbx2414, K2414, B2414⟩ W2414
    have ne2415 : el ≠ b2414 := Nat.ne_of_lt (Nat.lt_of_lt_of_le f2402.lt sb2414)
    have ne2416 : b2369 ≠ b2414 := Nat.ne_of_lt (Nat.lt_of_lt_of_le f2404.lt sb2414)
    have ne2417 : de ≠ b2414 := Nat.ne_of_lt (Nat.lt_of_lt_of_le f2405.lt sb2414)
    have ne2418 : es ≠ b2414 := Nat.ne_of_lt (Nat.lt_of_lt_of_le f2406.lt sb2414)
    have ne2419 : b2395 ≠ b2414 := Nat.ne_of_lt (Nat.lt_of_lt_of_le A2395.lt sb2414)
    have old2420 : h0.size ≤ b2414 := Nat.le_trans k2410.1 sb2414
    have ne2421 : el ≠ x2414 := Nat.ne_of_lt (Nat.lt_of_lt_of_le f2402.lt sx2414)
    have ne2422 : b2369 ≠ x2414 := Nat.ne_of_lt (Nat.lt_of_lt_of_le f2404.lt sx2414)
    have ne2423 : de ≠ x2414 := Nat.ne_of_lt (Nat.lt_of_lt_of_le f2405.lt sx2414)
    have ne2424 : es ≠ x2414 := Nat.ne_of_lt (Nat.lt_of_lt_of_le f2406.lt sx2414)
    have ne2425 : b2395 ≠ x2414 := Nat.ne_of_lt (Nat.lt_of_lt_of_le A2395.lt sx2414)
    have old2426 : h0.size ≤ x2414 := Nat.le_trans k2410.1 sx2414
    have f2427 := f2402.keep K2414
    have f2428 := f2403.keep K2414 nin0
    have f2429 := f2404.keep K2414
    have f2430 := f2407.keep K2414 nin0
    have f2431 := f2408.keep K2414 nin0
    have f2432 := f2409.keep K2414 nin0
    have f2433 := A2395.keep K2414
    have f2434 := f2412.keep K2414 nin0
    have f2435 := f2413.keep K2414 nin0
    have k2436 := k2410.trans K2414 all0
    have z2437 := Nat.le_trans z2411 K2414.1
    have f2438 := f2405.keep K2414 nin0
    have f2439 := f2406.keep K2414 nin0
    have I2414 := own_B.ins hw B2414
    show Go E _ (Fm E T2414 85 #[.val (.int x0), .val (.int x1), .val (.int x2), .val (.int x3), .val (.int (x3 &&& (15 : Int32))), .val (.int (((x3.toUInt32 >>> ((4 : Int32) &&& 31).toUInt32).toInt32) &&& (15 : Int32))), .val (.int (((x3.toUInt32 >>> ((8 : Int32) &&& 31).toUInt32).toInt32) &&& (15 : Int32))), .val (.int (((x3.toUInt32 >>> ((12 : Int32) &&& 31).toUInt32).toInt32) &&& (15 : Int32))), .val (.int (0 : Int32)), .val (.int (((x3.toUInt32 >>> ((17 : Int32) &&& 31).toUInt32).toInt32) &&& (1 : Int32))), .val (.int (((x3.toUInt32 >>> ((18 : Int32) &&& 31).toUInt32).toInt32) &&& (1 : Int32))), .val (.ref b2369), .unset, .unset, .unset, .unset, .unset, .unset, .unset, .unset] [(.ref b2414), (.int x0), (.ref b2395), (.ref b2395), (.ref b2369)])
    refine go_callN (a := b2395) (kc := K13) (argsL := [(.int x0), (.ref b2414)]) (rest := [(.ref b2395), (.ref b2369)]) (pc' := 88) W2414 (w76 hw) (w77 hw) (w28 hw) (w78 hw) (rm13 E.l Z a0 hw b2395 x0 b2414  h2414 n0 z2437 f2433 f2434 f2435 ge2400 ) rfl rfl (by decide) pd21 rfl rfl rfl (nb rfl) (nb rfl) (nb rfl) (nb rfl) d0_85 rfl ?_
    rintro _ T2440 h2440 ⟨rfl, K2440, g2440_0, g2440_1⟩ W2440
    have f2441 := f2427.keep K2440
    have f2442 := f2428.keep K2440 (ninS ne2396 nin0)
    have f2443 := f2429.keep K2440
    have f2444 := f2430.keep K2440 (ninS ne2397 nin0)
    have f2445 := f2431.keep K2440 (ninS ne2397 nin0)
    have f2446 := f2432.keep K2440 (ninS ne2397 nin0)
    have f2447 := f2433.keep K2440
    have ob2451 := own_B.keep B2414 K2440 (ninS (Ne.symm ne2419) nin0) (ninS (Ne.symm ne2425) nin0)
    have f2452 := B2414.1.keep K2440
    have k2453 := k2436.trans K2440 (allS (Or.inr old2401) all0)
    have z2454 := Nat.le_trans z2437 K2440.1
    have f2455 := f2438.keep K2440 (ninS ne2398 nin0)
    have f2456 := f2439.keep K2440 (ninS ne2399 nin0)
    have f2457 := Ins.keepK I2414 K2440
    show Go E _ (Fm E T2440 88 #[.val (.int x0), .val (.int x1), .val (.int x2), .val (.int x3), .val (.int (x3 &&& (15 : Int32))), .val (.int (((x3.toUInt32 >>> ((4 : Int32) &&& 31).toUInt32).toInt32) &&& (15 : Int32))), .val (.int (((x3.toUInt32 >>> ((8 : Int32) &&& 31).toUInt32).toInt32) &&& (15 : Int32))), .val (.int (((x3.toUInt32 >>> ((12 : Int32) &&& 31).toUInt32).toInt32) &&& (15 : Int32))), .val (.int (0 : Int32)), .val (.int (((x3.toUInt32 >>> ((17 : Int32) &&& 31).toUInt32).toInt32) &&& (1 : Int32))), .val (.int (((x3.toUInt32 >>> ((18 : Int32) &&& 31).toUInt32).toInt32) &&& (1 : Int32))), .val (.ref b2369), .unset, .unset, .unset, .unset, .unset, .unset, .unset, .unset] [(.ref b2395), (.ref b2369)])
    have I2458 : Ins Z h2440 b2395 OB true := Ins.of_exa f2447 (w119 hw)
    refine go_callV (a := b2369) (kc := K15) (argsL := [(.ref b2395)]) (rest := []) (pc' := 91) W2440 (w89 hw) (w90 hw) (nf_sel W2440 (w92 hw)) (w92 hw) (w91 hw) (w2 hw) (w93 hw) f2443 (rmA_0 E.l Z a0 hw b2369 b2395 (0 : Int32) de h2440 n0 z2454 f2443 f2444 f2445 f2446 ge2373 (Sta.kept Sd k2453) f2455 (Ne.symm ne2370) I2458) (by decide) pd22 rfl rfl rfl (nb rfl) (nb rfl) (nb rfl) (nb rfl) d0_88 rfl ?_
    rintro _ T2459 h2459 ⟨y2459, rfl, gy2459, so2459, K2459, g2459_0, g2459_1, g2459_2, ay2459, ey2459⟩ W2459
    have ne2460 : el ≠ y2459 := Nat.ne_of_lt (Nat.lt_of_lt_of_le f2441.lt so2459)
    have ne2461 : b2369 ≠ y2459 := Nat.ne_of_lt (Nat.lt_of_lt_of_le f2443.lt so2459)
    have ne2462 : b2395 ≠ y2459 := Nat.ne_of_lt (Nat.lt_of_lt_of_le f2447.lt so2459)
    have ne2463 : b2414 ≠ y2459 := Nat.ne_of_lt (Nat.lt_of_lt_of_le f2452.lt so2459)
    have ne2464 : de ≠ y2459 := Nat.ne_of_lt (Nat.lt_of_lt_of_le f2455.lt so2459)
    have ne2465 : es ≠ y2459 := Nat.ne_of_lt (Nat.lt_of_lt_of_le f2456.lt so2459)
    have ne2466 : b2414 ≠ y2459 := Nat.ne_of_lt (Nat.lt_of_lt_of_le ob2451.1.lt so2459)
    have ne2467 : x2414 ≠ y2459 := Nat.ne_of_lt (Nat.lt_of_lt_of_le ob2451.ltx so2459)
    have old2468 : h0.size ≤ y2459 := Nat.le_trans k2453.1 so2459
    have f2469 := f2441.keep K2459
    have f2470 := f2442.keep K2459 (ninS ne2371 nin0)
    have f2471 := f2443.keep K2459
    have f2475 := f2447.keep K2459
    have ob2477 := own_B.keep ob2451 K2459 (ninS (Ne.symm ne2416) nin0) (ninS (Ne.symm ne2422) nin0)
    have f2478 := f2452.keep K2459
    have f2479 := g2440_0.keep K2459 (ninS (Ne.symm ne2397) nin0)
    have f2480 := g2440_1.keep K2459 (ninS (Ne.symm ne2397) nin0)
    have k2481 := k2453.trans K2459 (allS (Or.inr old2374) all0)
    have z2482 := Nat.le_trans z2454 K2459.1
    have f2483 := f2455.keep K2459 (ninS ne2370 nin0)
    have f2484 := f2456.keep K2459 (ninS ne2372 nin0)
    have f2485 := Ins.keepK f2457 K2459
    have f2486 := Ins.keepK I2458 K2459
    show Go E _ (Fm E T2459 91 #[.val (.int x0), .val (.int x1), .val (.int x2), .val (.int x3), .val (.int (x3 &&& (15 : Int32))), .val (.int (((x3.toUInt32 >>> ((4 : Int32) &&& 31).toUInt32).toInt32) &&& (15 : Int32))), .val (.int (((x3.toUInt32 >>> ((8 : Int32) &&& 31).toUInt32).toInt32) &&& (15 : Int32))), .val (.int (((x3.toUInt32 >>> ((12 : Int32) &&& 31).toUInt32).toInt32) &&& (15 : Int32))), .val (.int (0 : Int32)), .val (.int (((x3.toUInt32 >>> ((17 : Int32) &&& 31).toUInt32).toInt32) &&& (1 : Int32))), .val (.int (((x3.toUInt32 >>> ((18 : Int32) &&& 31).toUInt32).toInt32) &&& (1 : Int32))), .val (.ref b2369), .unset, .unset, .unset, .unset, .unset, .unset, .unset, .unset] [(.int (1 : Int32))])
    refine go_pop (pc' := 92) W2459 d0_91 rfl rfl ?_
    refine go_aload (pc' := 94) W2459 d0_92 rfl rfl rfl ?_
    refine go_new (pc' := 97) W2459 (w26 hw) (w27 hw) (w28 hw) d0_94 (nb rfl) (nb rfl) rfl ?_
    intro T2487 h2487 b2487 g2487 W2487 E2487 A2487 D2487 M2487
    have ne2488 : el ≠ b2487 := by rw [g2487]; exact Nat.ne_of_lt f2469.lt
    have ne2489 : b2369 ≠ b2487 := by rw [g2487]; exact Nat.ne_of_lt f2471.lt
    have ne2490 : b2395 ≠ b2487 := by rw [g2487]; exact Nat.ne_of_lt f2475.lt
    have ne2491 : b2414 ≠ b2487 := by rw [g2487]; exact Nat.ne_of_lt f2478.lt
    have ne2492 : de ≠ b2487 := by rw [g2487]; exact Nat.ne_of_lt f2483.lt
    have ne2493 : es ≠ b2487 := by rw [g2487]; exact Nat.ne_of_lt f2484.lt
    have ne2494 : y2459 ≠ b2487 := by rw [g2487]; exact Nat.ne_of_lt ay2459.lt
    have ge2495 : n0 ≤ b2487 := by rw [g2487]; exact z2482
    have old2496 : h0.size ≤ b2487 := by rw [g2487]; exact k2481.1
    have ne2497 : b2414 ≠ b2487 := by rw [g2487]; exact Nat.ne_of_lt ob2477.1.lt
    have ne2498 : x2414 ≠ b2487 := by rw [g2487]; exact Nat.ne_of_lt ob2477.ltx
    have f2499 := f2469.ext E2487
    have f2500 := f2470.ext E2487
    have f2501 := f2471.ext E2487
    have f2502 := f2475.ext E2487
    have ob2503 := own_B.keep ob2477 ((Keep.refl _ []).ext E2487) nin0 nin0
    have f2504 := f2478.ext E2487
    have f2505 := f2479.ext E2487
    have f2506 := f2480.ext E2487
    have f2507 := f2483.ext E2487
    have f2508 := f2484.ext E2487
    have f2509 := f2485.ext E2487
    have f2510 := f2486.ext E2487
    have f2511 := g2459_0.ext E2487
    have f2512 := g2459_1.ext E2487
    have f2513 := g2459_2.ext E2487
    have f2514 := ay2459.ext E2487
    have f2515 := ey2459.ext E2487
    have k2516 := k2481.ext E2487
    have z2517 := Nat.le_trans z2482 E2487.1
    have f2518 : Fld Z h2487 b2487 "com/example/slotwright/slotwright/EnrolmentInstance$Room" "size" "I" (.int (0 : Int32)) := D2487 (Or.inr (w86 hw)) (ty := .int) (by decide)
    have f2519 : Fld Z h2487 b2487 "com/example/slotwright/slotwright/EnrolmentInstance$Room" "features" "Ljava/util/BitSet;" .null := D2487 (Or.inr (w88 hw)) (ty := (.object "java/util/BitSet")) (by decide)
    refine go_dup (pc' := 98) W2487 d0_97 rfl rfl ?_
    refine go_iloadN (pc' := 99) W2487 d0_98 rfl rfl ?_
    refine go_iload (pc' := 101) W2487 d0_99 rfl rfl ?_
    refine go_callS (kc := K5) (argsL := [(.int (((x3.toUInt32 >>> ((4 : Int32) &&& 31).toUInt32).toInt32) &&& (15 : Int32)))]) (rest := [(.int x1), (.ref b2487), (.ref b2487), (.ref b2369)]) (pc' := 104) W2487 (w29 hw) (w30 hw) (w31 hw) (w32 hw) (rm5 E.l Z a0 hw (((x3.toUInt32 >>> ((4 : Int32) &&& 31).toUInt32).toInt32) &&& (15 : Int32)) h2487 n0 z2517 (Sta.kept Sa k2516)) (by decide) pd20 rfl rfl rfl (nb rfl) (nb rfl) (nb rfl) (nb rfl) d0_101 rfl ?_
    rintro _ T2520 h2520 ⟨b2520, x2520, rfl, gb2520, sb2520, gx2520, sx2520, nbx2520, K2520, B2520⟩ W2520
    have ne2521 : el ≠ b2520 := Nat.ne_of_lt (Nat.lt_of_lt_of_le f2499.lt sb2520)
    have ne2522 : b2369 ≠ b2520 := Nat.ne_of_lt (Nat.lt_of_lt_of_le f2501.lt sb2520)
    have ne2523 : b2395 ≠ b2520 := Nat.ne_of_lt (Nat.lt_of_lt_of_le f2502.lt sb2520)
    have ne2524 : b2414 ≠ b2520 := Nat.ne_of_lt (Nat.lt_of_lt_of_le f2504.lt sb2520)
    have ne2525 : de ≠ b2520 := Nat.ne_of_lt (Nat.lt_of_lt_of_le f2507.lt sb2520)
    have ne2526 : es ≠ b2520 := Nat.ne_of_lt (Nat.lt_of_lt_of_le f2508.lt sb2520)
    have ne2527 : y2459 ≠ b2520 := Nat.ne_of_lt (Nat.lt_of_lt_of_le f2514.lt sb2520)
    have ne2528 : b2487 ≠ b2520 := Nat.ne_of_lt (Nat.lt_of_lt_of_le A2487.lt sb2520)
    have ne2529 : b2414 ≠ b2520 := Nat.ne_of_lt (Nat.lt_of_lt_of_le ob2503.1.lt sb2520)
    have ne2530 : x2414 ≠ b2520 := Nat.ne_of_lt (Nat.lt_of_lt_of_le ob2503.ltx sb2520)
    have old2531 : h0.size ≤ b2520 := Nat.le_trans k2516.1 sb2520
    have ne2532 : el ≠ x2520 := Nat.ne_of_lt (Nat.lt_of_lt_of_le f2499.lt sx2520)
    have ne2533 : b2369 ≠ x2520 := Nat.ne_of_lt (Nat.lt_of_lt_of_le f2501.lt sx2520)
    have ne2534 : b2395 ≠ x2520 := Nat.ne_of_lt (Nat.lt_of_lt_of_le f2502.lt sx2520)
    have ne2535 : b2414 ≠ x2520 := Nat.ne_of_lt (Nat.lt_of_lt_of_le f2504.lt sx2520)
    have ne2536 : de ≠ x2520 := Nat.ne_of_lt (Nat.lt_of_lt_of_le f2507.lt sx2520)
    have ne2537 : es ≠ x2520 := Nat.ne_of_lt (Nat.lt_of_lt_of_le f2508.lt sx2520)
    have ne2538 : y2459 ≠ x2520 := Nat.ne_of_lt (Nat.lt_of_lt_of_le f2514.lt sx2520)
    have ne2539 : b2487 ≠ x2520 := Nat.ne_of_lt (Nat.lt_of_lt_of_le A2487.lt sx2520)
    have ne2540 : b2414 ≠ x2520 := Nat.ne_of_lt (Nat.lt_of_lt_of_le ob2503.1.lt sx2520)
    have ne2541 : x2414 ≠ x2520 := Nat.ne_of_lt (Nat.lt_of_lt_of_le ob2503.ltx sx2520)
    have old2542 : h0.size ≤ x2520 := Nat.le_trans k2516.1 sx2520
    have f2543 := f2499.keep K2520
    have f2544 := f2500.keep K2520 nin0
    have f2545 := f2501.keep K2520
    have f2546 := f2502.keep K2520
    have ob2548 := own_B.keep ob2503 K2520 nin0 nin0
    have f2549 := f2504.keep K2520
    have f2550 := f2505.keep K2520 nin0
    have f2551 := f2506.keep K2520 nin0
    have f2552 := f2511.keep K2520 nin0
    have f2553 := f2512.keep K2520 nin0
    have f2554 := f2513.keep K2520 nin0
    have f2555 := f2515.keep K2520
    have f2556 := A2487.keep K2520
    have f2557 := f2518.keep K2520 nin0
    have f2558 := f2519.keep K2520 nin0
    have k2559 := k2516.trans K2520 all0
    have z2560 := Nat.le_trans z2517 K2520.1
    have f2561 := f2507.keep K2520 nin0
    have f2562 := f2508.keep K2520 nin0
    have f2563 := f2514.keep K2520 nin0
    have f2564 := Ins.keepK f2509 K2520
    have f2565 := Ins.keepK f2510 K2520
    have I2520 := own_B.ins hw B2520
    show Go E _ (Fm E T2520 104 #[.val (.int x0), .val (.int x1), .val (.int x2), .val (.int x3), .val (.int (x3 &&& (15 : Int32))), .val (.int (((x3.toUInt32 >>> ((4 : Int32) &&& 31).toUInt32).toInt32) &&& (15 : Int32))), .val (.int (((x3.toUInt32 >>> ((8 : Int32) &&& 31).toUInt32).toInt32) &&& (15 : Int32))), .val (.int (((x3.toUInt32 >>> ((12 : Int32) &&& 31).toUInt32).toInt32) &&& (15 : Int32))), .val (.int (0 : Int32)), .val (.int (((x3.toUInt32 >>> ((17 : Int32) &&& 31).toUInt32).toInt32) &&& (1 : Int32))), .val (.int (((x3.toUInt32 >>> ((18 : Int32) &&& 31).toUInt32).toInt32) &&& (1 : Int32))), .val (.ref b2369), .unset, .unset, .unset, .unset, .unset, .unset, .unset, .unset] [(.ref b2520), (.int x1), (.ref b2487), (.ref b2487), (.ref b2369)])
    refine go_callN (a := b2487) (kc := K13) (argsL := [(.int x1), (.ref b2520)]) (rest := [(.ref b2487), (.ref b2369)]) (pc' := 107) W2520 (w76 hw) (w77 hw) (w28 hw) (w78 hw) (rm13 E.l Z a0 hw b2487 x1 b2520  h2520 n0 z2560 f2556 f2557 f2558 ge2495 ) rfl rfl (by decide) pd21 rfl rfl rfl (nb rfl) (nb rfl) (nb rfl) (nb rfl) d0_104 rfl ?_
    rintro _ T2566 h2566 ⟨rfl, K2566, g2566_0, g2566_1⟩ W2566
    have f2567 := f2543.keep K2566
    have f2568 := f2544.keep K2566 (ninS ne2488 nin0)
    have f2569 := f2545.keep K2566
    have f2570 := f2546.keep K2566
    have ob2572 := own_B.keep ob2548 K2566 (ninS ne2497 nin0) (ninS ne2498 nin0)
    have f2573 := f2549.keep K2566
    have f2574 := f2550.keep K2566 (ninS ne2490 nin0)
    have f2575 := f2551.keep K2566 (ninS ne2490 nin0)
    have f2576 := f2552.keep K2566 (ninS ne2489 nin0)
    have f2577 := f2553.keep K2566 (ninS ne2489 nin0)
    have f2578 := f2554.keep K2566 (ninS ne2489 nin0)
    have f2579 := f2555.keep K2566
    have f2580 := f2556.keep K2566
    have ob2584 := own_B.keep B2520 K2566 (ninS (Ne.symm ne2528) nin0) (ninS (Ne.symm ne2539) nin0)
    have f2585 := B2520.1.keep K2566
    have k2586 := k2559.trans K2566 (allS (Or.inr old2496) all0)
    have z2587 := Nat.le_trans z2560 K2566.1
    have f2588 := f2561.keep K2566 (ninS ne2492 nin0)
    have f2589 := f2562.keep K2566 (ninS ne2493 nin0)
    have f2590 := f2563.keep K2566 (ninS ne2494 nin0)
    have f2591 := Ins.keepK f2564 K2566
    have f2592 := Ins.keepK f2565 K2566
    have f2593 := Ins.keepK I2520 K2566
    show Go E _ (Fm E T2566 107 #[.val (.int x0), .val (.int x1), .val (.int x2), .val (.int x3), .val (.int (x3 &&& (15 : Int32))), .val (.int (((x3.toUInt32 >>> ((4 : Int32) &&& 31).toUInt32).toInt32) &&& (15 : Int32))), .val (.int (((x3.toUInt32 >>> ((8 : Int32) &&& 31).toUInt32).toInt32) &&& (15 : Int32))), .val (.int (((x3.toUInt32 >>> ((12 : Int32) &&& 31).toUInt32).toInt32) &&& (15 : Int32))), .val (.int (0 : Int32)), .val (.int (((x3.toUInt32 >>> ((17 : Int32) &&& 31).toUInt32).toInt32) &&& (1 : Int32))), .val (.int (((x3.toUInt32 >>> ((18 : Int32) &&& 31).toUInt32).toInt32) &&& (1 : Int32))), .val (.ref b2369), .unset, .unset, .unset, .unset, .unset, .unset, .unset, .unset] [(.ref b2487), (.ref b2369)])
    have I2594 : Ins Z h2566 b2487 OB true := Ins.of_exa f2580 (w119 hw)
    refine go_callV (a := b2369) (kc := K15) (argsL := [(.ref b2487)]) (rest := []) (pc' := 110) W2566 (w89 hw) (w90 hw) (nf_sel W2566 (w92 hw)) (w92 hw) (w91 hw) (w2 hw) (w93 hw) f2569 (rmA_1 E.l Z a0 hw b2369 b2487 y2459 ((0 : Int32) + (1 : Int32)) b2395 h2566 n0 z2587 f2569 f2576 f2577 f2578 ge2373 gy2459 ne2461 f2590 f2579 I2594) (by decide) pd22 rfl rfl rfl (nb rfl) (nb rfl) (nb rfl) (nb rfl) d0_107 rfl ?_
    rintro _ T2595 h2595 ⟨rfl, K2595, g2595_0, g2595_1, g2595_2, ay2595⟩ W2595
    have f2596 := f2567.keep K2595
    have f2597 := f2568.keep K2595 (ninS ne2371 (ninS ne2460 nin0))
    have f2598 := f2569.keep K2595
    have f2599 := f2570.keep K2595
    have ob2601 := own_B.keep ob2572 K2595 (ninS (Ne.symm ne2416) (ninS ne2466 nin0)) (ninS (Ne.symm ne2422) (ninS ne2467 nin0))
    have f2602 := f2573.keep K2595
    have f2603 := f2574.keep K2595 (ninS (Ne.symm ne2397) (ninS ne2462 nin0))
    have f2604 := f2575.keep K2595 (ninS (Ne.symm ne2397) (ninS ne2462 nin0))
    have f2608 := f2579.keep K2595
    have f2609 := f2580.keep K2595
    have ob2611 := own_B.keep ob2584 K2595 (ninS (Ne.symm ne2522) (ninS (Ne.symm ne2527) nin0)) (ninS (Ne.symm ne2533) (ninS (Ne.symm ne2538) nin0))
    have f2612 := f2585.keep K2595
    have f2613 := g2566_0.keep K2595 (ninS (Ne.symm ne2489) (ninS (Ne.symm ne2494) nin0))
    have f2614 := g2566_1.keep K2595 (ninS (Ne.symm ne2489) (ninS (Ne.symm ne2494) nin0))
    have k2615 := k2586.trans K2595 (allS (Or.inr old2374) (allS (Or.inr old2468) all0))
    have z2616 := Nat.le_trans z2587 K2595.1
    have f2617 := f2588.keep K2595 (ninS ne2370 (ninS ne2464 nin0))
    have f2618 := f2589.keep K2595 (ninS ne2372 (ninS ne2465 nin0))
    have f2619 := Ins.keepK f2591 K2595
    have f2620 := Ins.keepK f2592 K2595
    have f2621 := Ins.keepK f2593 K2595
    have f2622 := Ins.keepK I2594 K2595
    show Go E _ (Fm E T2595 110 #[.val (.int x0), .val (.int x1), .val (.int x2), .val (.int x3), .val (.int (x3 &&& (15 : Int32))), .val (.int (((x3.toUInt32 >>> ((4 : Int32) &&& 31).toUInt32).toInt32) &&& (15 : Int32))), .val (.int (((x3.toUInt32 >>> ((8 : Int32) &&& 31).toUInt32).toInt32) &&& (15 : Int32))), .val (.int (((x3.toUInt32 >>> ((12 : Int32) &&& 31).toUInt32).toInt32) &&& (15 : Int32))), .val (.int (0 : Int32)), .val (.int (((x3.toUInt32 >>> ((17 : Int32) &&& 31).toUInt32).toInt32) &&& (1 : Int32))), .val (.int (((x3.toUInt32 >>> ((18 : Int32) &&& 31).toUInt32).toInt32) &&& (1 : Int32))), .val (.ref b2369), .unset, .unset, .unset, .unset, .unset, .unset, .unset, .unset] [(.int (1 : Int32))])
    refine go_pop (pc' := 111) W2595 d0_110 rfl rfl ?_
    refine go_new (pc' := 114) W2595 (w0 hw) (w1 hw) (w2 hw) d0_111 (nb rfl) (nb rfl) rfl ?_
    intro T2623 h2623 b2623 g2623 W2623 E2623 A2623 D2623 M2623
    have ne2624 : el ≠ b2623 := by rw [g2623]; exact Nat.ne_of_lt f2596.lt
    have ne2625 : b2369 ≠ b2623 := by rw [g2623]; exact Nat.ne_of_lt f2598.lt
    have ne2626 : b2395 ≠ b2623 := by rw [g2623]; exact Nat.ne_of_lt f2599.lt
    have ne2627 : b2414 ≠ b2623 := by rw [g2623]; exact Nat.ne_of_lt f2602.lt
    have ne2628 : y2459 ≠ b2623 := by rw [g2623]; exact Nat.ne_of_lt f2608.lt
    have ne2629 : b2487 ≠ b2623 := by rw [g2623]; exact Nat.ne_of_lt f2609.lt
    have ne2630 : b2520 ≠ b2623 := by rw [g2623]; exact Nat.ne_of_lt f2612.lt
    have ne2631 : de ≠ b2623 := by rw [g2623]; exact Nat.ne_of_lt f2617.lt
    have ne2632 : es ≠ b2623 := by rw [g2623]; exact Nat.ne_of_lt f2618.lt
    have ge2633 : n0 ≤ b2623 := by rw [g2623]; exact z2616
    have old2634 : h0.size ≤ b2623 := by rw [g2623]; exact k2615.1
    have ne2635 : b2414 ≠ b2623 := by rw [g2623]; exact Nat.ne_of_lt ob2601.1.lt
    have ne2636 : x2414 ≠ b2623 := by rw [g2623]; exact Nat.ne_of_lt ob2601.ltx
    have ne2637 : b2520 ≠ b2623 := by rw [g2623]; exact Nat.ne_of_lt ob2611.1.lt
    have ne2638 : x2520 ≠ b2623 := by rw [g2623]; exact Nat.ne_of_lt ob2611.ltx
    have f2639 := f2596.ext E2623
    have f2640 := f2597.ext E2623
    have f2641 := f2598.ext E2623
    have f2642 := f2599.ext E2623
    have ob2643 := own_B.keep ob2601 ((Keep.refl _ []).ext E2623) nin0 nin0
    have f2644 := f2602.ext E2623
    have f2645 := f2603.ext E2623
    have f2646 := f2604.ext E2623
    have f2647 := f2608.ext E2623
    have f2648 := f2609.ext E2623
    have ob2649 := own_B.keep ob2611 ((Keep.refl _ []).ext E2623) nin0 nin0
    have f2650 := f2612.ext E2623
    have f2651 := f2613.ext E2623
    have f2652 := f2614.ext E2623
    have f2653 := f2617.ext E2623
    have f2654 := f2618.ext E2623
    have f2655 := f2619.ext E2623
    have f2656 := f2620.ext E2623
    have f2657 := f2621.ext E2623
    have f2658 := f2622.ext E2623
    have f2659 := g2595_0.ext E2623
    have f2660 := g2595_1.ext E2623
    have f2661 := g2595_2.ext E2623
    have f2662 := ay2595.ext E2623
    have k2663 := k2615.ext E2623
    have z2664 := Nat.le_trans z2616 E2623.1
    have f2665 : Fld Z h2623 b2623 "java/util/AbstractList" "modCount" "I" (.int (0 : Int32)) := D2623 (Or.inl (w22 hw)) (ty := .int) (by decide)
    have f2666 : Fld Z h2623 b2623 "java/util/ArrayList" "elementData" "[Ljava/lang/Object;" .null := D2623 (Or.inl (w25 hw)) (ty := (.array (.object "java/lang/Object"))) (by decide)
    have f2667 : Fld Z h2623 b2623 "java/util/ArrayList" "size" "I" (.int (0 : Int32)) := D2623 (Or.inl (w97 hw)) (ty := .int) (by decide)
    refine go_dup (pc' := 115) W2623 d0_114 rfl rfl ?_
    refine go_callN (a := b2623) (kc := K1) (argsL := []) (rest := [(.ref b2623)]) (pc' := 118) W2623 (w3 hw) (w4 hw) (w2 hw) (w5 hw) (rm1 E.l Z a0 hw b2623 de h2623 n0 z2664 A2623 f2665 f2666 f2667 ge2633 (Sta.kept Sd k2663)) rfl rfl (by decide) pd0 rfl rfl rfl (nb rfl) (nb rfl) (nb rfl) (nb rfl) d0_115 rfl ?_
    rintro _ T2668 h2668 ⟨rfl, K2668, g2668_0, g2668_1, g2668_2⟩ W2668
    have f2669 := f2639.keep K2668
    have f2670 := f2640.keep K2668 (ninS ne2624 nin0)
    have f2671 := f2641.keep K2668
    have f2672 := f2642.keep K2668
    have ob2674 := own_B.keep ob2643 K2668 (ninS ne2635 nin0) (ninS ne2636 nin0)
    have f2675 := f2644.keep K2668
    have f2676 := f2645.keep K2668 (ninS ne2626 nin0)
    have f2677 := f2646.keep K2668 (ninS ne2626 nin0)
    have f2678 := f2647.keep K2668
    have f2679 := f2648.keep K2668
    have ob2681 := own_B.keep ob2649 K2668 (ninS ne2637 nin0) (ninS ne2638 nin0)
    have f2682 := f2650.keep K2668
    have f2683 := f2651.keep K2668 (ninS ne2629 nin0)
    have f2684 := f2652.keep K2668 (ninS ne2629 nin0)
    have f2685 := f2659.keep K2668 (ninS ne2625 nin0)
    have f2686 := f2660.keep K2668 (ninS ne2625 nin0)
    have f2687 := f2661.keep K2668 (ninS ne2625 nin0)
    have f2688 := A2623.keep K2668
    have k2692 := k2663.trans K2668 (allS (Or.inr old2634) all0)
    have z2693 := Nat.le_trans z2664 K2668.1
    have f2694 := f2653.keep K2668 (ninS ne2631 nin0)
    have f2695 := f2654.keep K2668 (ninS ne2632 nin0)
    have f2696 := f2662.keep K2668 (ninS ne2628 nin0)
    have f2697 := Ins.keepK f2655 K2668
    have f2698 := Ins.keepK f2656 K2668
    have f2699 := Ins.keepK f2657 K2668
    have f2700 := Ins.keepK f2658 K2668
    show Go E _ (Fm E T2668 118 #[.val (.int x0), .val (.int x1), .val (.int x2), .val (.int x3), .val (.int (x3 &&& (15 : Int32))), .val (.int (((x3.toUInt32 >>> ((4 : Int32) &&& 31).toUInt32).toInt32) &&& (15 : Int32))), .val (.int (((x3.toUInt32 >>> ((8 : Int32) &&& 31).toUInt32).toInt32) &&& (15 : Int32))), .val (.int (((x3.toUInt32 >>> ((12 : Int32) &&& 31).toUInt32).toInt32) &&& (15 : Int32))), .val (.int (0 : Int32)), .val (.int (((x3.toUInt32 >>> ((17 : Int32) &&& 31).toUInt32).toInt32) &&& (1 : Int32))), .val (.int (((x3.toUInt32 >>> ((18 : Int32) &&& 31).toUInt32).toInt32) &&& (1 : Int32))), .val (.ref b2369), .unset, .unset, .unset, .unset, .unset, .unset, .unset, .unset] [(.ref b2623)])
    refine go_astore (pc' := 120) (l' := #[.val (.int x0), .val (.int x1), .val (.int x2), .val (.int x3), .val (.int (x3 &&& (15 : Int32))), .val (.int (((x3.toUInt32 >>> ((4 : Int32) &&& 31).toUInt32).toInt32) &&& (15 : Int32))), .val (.int (((x3.toUInt32 >>> ((8 : Int32) &&& 31).toUInt32).toInt32) &&& (15 : Int32))), .val (.int (((x3.toUInt32 >>> ((12 : Int32) &&& 31).toUInt32).toInt32) &&& (15 : Int32))), .val (.int (0 : Int32)), .val (.int (((x3.toUInt32 >>> ((17 : Int32) &&& 31).toUInt32).toInt32) &&& (1 : Int32))), .val (.int (((x3.toUInt32 >>> ((18 : Int32) &&& 31).toUInt32).toInt32) &&& (1 : Int32))), .val (.ref b2369), .val (.ref b2623), .unset, .unset, .unset, .unset, .unset, .unset, .unset]) W2668 d0_118 rfl rfl rfl ?_
    refine go_iload (pc' := 122) W2668 d0_120 rfl rfl ?_
    refine go_if_ne (pt := 147) (pf := 125) W2668 d0_122 (by decide) rfl rfl (fun c122_2701 => ?_) (fun c122_2701 => ?_)
    · exact absurd c122_2701 (by decide)
    · -- pc 122 not taken
      refine go_aload (pc' := 127) W2668 d0_125 rfl rfl rfl ?_
      refine go_iload (pc' := 129) W2668 d0_127 rfl rfl ?_
      refine go_callS (kc := K5) (argsL := [(.int (((x3.toUInt32 >>> ((8 : Int32) &&& 31).toUInt32).toInt32) &&& (15 : Int32)))]) (rest := [(.ref b2623)]) (pc' := 132) W2668 (w29 hw) (w30 hw) (w31 hw) (w32 hw) (rm5 E.l Z a0 hw (((x3.toUInt32 >>> ((8 : Int32) &&& 31).toUInt32).toInt32) &&& (15 : Int32)) h2668 n0 z2693 (Sta.kept Sa k2692)) (by decide) pd20 rfl rfl rfl (nb rfl) (nb rfl) (nb rfl) (nb rfl) d0_129 rfl ?_
      rintro _ T2702 h2702 ⟨b2702, x2702, rfl, gb2702, sb2702, gx2702, sx2702, nbx2702, K2702, B2702⟩ W2702
      have ne2703 : el ≠ b2702 := Nat.ne_of_lt (Nat.lt_of_lt_of_le f2669.lt sb2702)
      have ne2704 : b2369 ≠ b2702 := Nat.ne_of_lt (Nat.lt_of_lt_of_le f2671.lt sb2702)
      have ne2705 : b2395 ≠ b2702 := Nat.ne_of_lt (Nat.lt_of_lt_of_le f2672.lt sb2702)
      have ne2706 : b2414 ≠ b2702 := Nat.ne_of_lt (Nat.lt_of_lt_of_le f2675.lt sb2702)
      have ne2707 : y2459 ≠ b2702 := Nat.ne_of_lt (Nat.lt_of_lt_of_le f2678.lt sb2702)
      have ne2708 : b2487 ≠ b2702 := Nat.ne_of_lt (Nat.lt_of_lt_of_le f2679.lt sb2702)
      have ne2709 : b2520 ≠ b2702 := Nat.ne_of_lt (Nat.lt_of_lt_of_le f2682.lt sb2702)
      have ne2710 : b2623 ≠ b2702 := Nat.ne_of_lt (Nat.lt_of_lt_of_le f2688.lt sb2702)
      have ne2711 : de ≠ b2702 := Nat.ne_of_lt (Nat.lt_of_lt_of_le f2694.lt sb2702)
      have ne2712 : es ≠ b2702 := Nat.ne_of_lt (Nat.lt_of_lt_of_le f2695.lt sb2702)
      have ne2713 : b2414 ≠ b2702 := Nat.ne_of_lt (Nat.lt_of_lt_of_le ob2674.1.lt sb2702)
      have ne2714 : x2414 ≠ b2702 := Nat.ne_of_lt (Nat.lt_of_lt_of_le ob2674.ltx sb2702)
      have ne2715 : b2520 ≠ b2702 := Nat.ne_of_lt (Nat.lt_of_lt_of_le ob2681.1.lt sb2702)
      have ne2716 : x2520 ≠ b2702 := Nat.ne_of_lt (Nat.lt_of_lt_of_le ob2681.ltx sb2702)
      have old2717 : h0.size ≤ b2702 := Nat.le_trans k2692.1 sb2702
      have ne2718 : el ≠ x2702 := Nat.ne_of_lt (Nat.lt_of_lt_of_le f2669.lt sx2702)
      have ne2719 : b2369 ≠ x2702 := Nat.ne_of_lt (Nat.lt_of_lt_of_le f2671.lt sx2702)
      have ne2720 : b2395 ≠ x2702 := Nat.ne_of_lt (Nat.lt_of_lt_of_le f2672.lt sx2702)
      have ne2721 : b2414 ≠ x2702 := Nat.ne_of_lt (Nat.lt_of_lt_of_le f2675.lt sx2702)
      have ne2722 : y2459 ≠ x2702 := Nat.ne_of_lt (Nat.lt_of_lt_of_le f2678.lt sx2702)
      have ne2723 : b2487 ≠ x2702 := Nat.ne_of_lt (Nat.lt_of_lt_of_le f2679.lt sx2702)
      have ne2724 : b2520 ≠ x2702 := Nat.ne_of_lt (Nat.lt_of_lt_of_le f2682.lt sx2702)
      have ne2725 : b2623 ≠ x2702 := Nat.ne_of_lt (Nat.lt_of_lt_of_le f2688.lt sx2702)
      have ne2726 : de ≠ x2702 := Nat.ne_of_lt (Nat.lt_of_lt_of_le f2694.lt sx2702)
      have ne2727 : es ≠ x2702 := Nat.ne_of_lt (Nat.lt_of_lt_of_le f2695.lt sx2702)
      have ne2728 : b2414 ≠ x2702 := Nat.ne_of_lt (Nat.lt_of_lt_of_le ob2674.1.lt sx2702)
      have ne2729 : x2414 ≠ x2702 := Nat.ne_of_lt (Nat.lt_of_lt_of_le ob2674.ltx sx2702)
      have ne2730 : b2520 ≠ x2702 := Nat.ne_of_lt (Nat.lt_of_lt_of_le ob2681.1.lt sx2702)
      have ne2731 : x2520 ≠ x2702 := Nat.ne_of_lt (Nat.lt_of_lt_of_le ob2681.ltx sx2702)
      have old2732 : h0.size ≤ x2702 := Nat.le_trans k2692.1 sx2702
      have f2733 := f2669.keep K2702
      have f2734 := f2670.keep K2702 nin0
      have f2735 := f2671.keep K2702
      have f2736 := f2672.keep K2702
      have ob2738 := own_B.keep ob2674 K2702 nin0 nin0
      have f2739 := f2675.keep K2702
      have f2740 := f2676.keep K2702 nin0
      have f2741 := f2677.keep K2702 nin0
      have f2742 := f2678.keep K2702
      have f2743 := f2679.keep K2702
      have ob2745 := own_B.keep ob2681 K2702 nin0 nin0
      have f2746 := f2682.keep K2702
      have f2747 := f2683.keep K2702 nin0
      have f2748 := f2684.keep K2702 nin0
      have f2749 := f2685.keep K2702 nin0
      have f2750 := f2686.keep K2702 nin0
      have f2751 := f2687.keep K2702 nin0
      have f2752 := f2688.keep K2702
      have f2753 := g2668_0.keep K2702 nin0
      have f2754 := g2668_1.keep K2702 nin0
      have f2755 := g2668_2.keep K2702 nin0
      have k2756 := k2692.trans K2702 all0
      have z2757 := Nat.le_trans z2693 K2702.1
      have f2758 := f2694.keep K2702 nin0
      have f2759 := f2695.keep K2702 nin0
      have f2760 := f2696.keep K2702 nin0
      have f2761 := Ins.keepK f2697 K2702
      have f2762 := Ins.keepK f2698 K2702
      have f2763 := Ins.keepK f2699 K2702
      have f2764 := Ins.keepK f2700 K2702
      have I2702 := own_B.ins hw B2702
      show Go E _ (Fm E T2702 132 #[.val (.int x0), .val (.int x1), .val (.int x2), .val (.int x3), .val (.int (x3 &&& (15 : Int32))), .val (.int (((x3.toUInt32 >>> ((4 : Int32) &&& 31).toUInt32).toInt32) &&& (15 : Int32))), .val (.int (((x3.toUInt32 >>> ((8 : Int32) &&& 31).toUInt32).toInt32) &&& (15 : Int32))), .val (.int (((x3.toUInt32 >>> ((12 : Int32) &&& 31).toUInt32).toInt32) &&& (15 : Int32))), .val (.int (0 : Int32)), .val (.int (((x3.toUInt32 >>> ((17 : Int32) &&& 31).toUInt32).toInt32) &&& (1 : Int32))), .val (.int (((x3.toUInt32 >>> ((18 : Int32) &&& 31).toUInt32).toInt32) &&& (1 : Int32))), .val (.ref b2369), .val (.ref b2623), .unset, .unset, .unset, .unset, .unset, .unset, .unset] [(.ref b2702), (.ref b2623)])
      refine go_callV (a := b2623) (kc := K15) (argsL := [(.ref b2702)]) (rest := []) (pc' := 135) W2702 (w89 hw) (w90 hw) (nf_sel W2702 (w92 hw)) (w92 hw) (w91 hw) (w2 hw) (w93 hw) f2752 (rmA_0 E.l Z a0 hw b2623 b2702 (0 : Int32) de h2702 n0 z2757 f2752 f2753 f2754 f2755 ge2633 (Sta.kept Sd k2756) f2758 (Ne.symm ne2631) I2702) (by decide) pd22 rfl rfl rfl (nb rfl) (nb rfl) (nb rfl) (nb rfl) d0_132 rfl ?_
      rintro _ T2765 h2765 ⟨y2765, rfl, gy2765, so2765, K2765, g2765_0, g2765_1, g2765_2, ay2765, ey2765⟩ W2765
      have ne2766 : el ≠ y2765 := Nat.ne_of_lt (Nat.lt_of_lt_of_le f2733.lt so2765)
      have ne2767 : b2369 ≠ y2765 := Nat.ne_of_lt (Nat.lt_of_lt_of_le f2735.lt so2765)
      have ne2768 : b2395 ≠ y2765 := Nat.ne_of_lt (Nat.lt_of_lt_of_le f2736.lt so2765)
      have ne2769 : b2414 ≠ y2765 := Nat.ne_of_lt (Nat.lt_of_lt_of_le f2739.lt so2765)
      have ne2770 : y2459 ≠ y2765 := Nat.ne_of_lt (Nat.lt_of_lt_of_le f2742.lt so2765)
      have ne2771 : b2487 ≠ y2765 := Nat.ne_of_lt (Nat.lt_of_lt_of_le f2743.lt so2765)
      have ne2772 : b2520 ≠ y2765 := Nat.ne_of_lt (Nat.lt_of_lt_of_le f2746.lt so2765)
      have ne2773 : b2623 ≠ y2765 := Nat.ne_of_lt (Nat.lt_of_lt_of_le f2752.lt so2765)
      have ne2774 : de ≠ y2765 := Nat.ne_of_lt (Nat.lt_of_lt_of_le f2758.lt so2765)
      have ne2775 : es ≠ y2765 := Nat.ne_of_lt (Nat.lt_of_lt_of_le f2759.lt so2765)
      have ne2776 : b2702 ≠ y2765 := Nat.ne_of_lt (Nat.lt_of_lt_of_le B2702.1.lt so2765)
      have ne2777 : b2414 ≠ y2765 := Nat.ne_of_lt (Nat.lt_of_lt_of_le ob2738.1.lt so2765)
      have ne2778 : x2414 ≠ y2765 := Nat.ne_of_lt (Nat.lt_of_lt_of_le ob2738.ltx so2765)
      have ne2779 : b2520 ≠ y2765 := Nat.ne_of_lt (Nat.lt_of_lt_of_le ob2745.1.lt so2765)
      have ne2780 : x2520 ≠ y2765 := Nat.ne_of_lt (Nat.lt_of_lt_of_le ob2745.ltx so2765)
      have ne2781 : b2702 ≠ y2765 := Nat.ne_of_lt (Nat.lt_of_lt_of_le B2702.1.lt so2765)
      have ne2782 : x2702 ≠ y2765 := Nat.ne_of_lt (Nat.lt_of_lt_of_le B2702.ltx so2765)
      have old2783 : h0.size ≤ y2765 := Nat.le_trans k2756.1 so2765
      have f2784 := f2733.keep K2765
      have f2785 := f2734.keep K2765 (ninS ne2624 nin0)
      have f2786 := f2735.keep K2765
      have f2787 := f2736.keep K2765
      have ob2789 := own_B.keep ob2738 K2765 (ninS ne2635 nin0) (ninS ne2636 nin0)
      have f2790 := f2739.keep K2765
      have f2791 := f2740.keep K2765 (ninS ne2626 nin0)
      have f2792 := f2741.keep K2765 (ninS ne2626 nin0)
      have f2793 := f2742.keep K2765
      have f2794 := f2743.keep K2765
      have ob2796 := own_B.keep ob2745 K2765 (ninS ne2637 nin0) (ninS ne2638 nin0)
      have f2797 := f2746.keep K2765
      have f2798 := f2747.keep K2765 (ninS ne2629 nin0)
      have f2799 := f2748.keep K2765 (ninS ne2629 nin0)
      have f2800 := f2749.keep K2765 (ninS ne2625 nin0)
      have f2801 := f2750.keep K2765 (ninS ne2625 nin0)
      have f2802 := f2751.keep K2765 (ninS ne2625 nin0)
      have f2803 := f2752.keep K2765
      have ob2808 := own_B.keep B2702 K2765 (ninS (Ne.symm ne2710) nin0) (ninS (Ne.symm ne2725) nin0)
      have f2809 := B2702.1.keep K2765
      have k2810 := k2756.trans K2765 (allS (Or.inr old2634) all0)
      have z2811 := Nat.le_trans z2757 K2765.1
      have f2812 := f2758.keep K2765 (ninS ne2631 nin0)
      have f2813 := f2759.keep K2765 (ninS ne2632 nin0)
      have f2814 := f2760.keep K2765 (ninS ne2628 nin0)
      have f2815 := Ins.keepK f2761 K2765
      have f2816 := Ins.keepK f2762 K2765
      have f2817 := Ins.keepK f2763 K2765
      have f2818 := Ins.keepK f2764 K2765
      have f2819 := Ins.keepK I2702 K2765
      show Go E _ (Fm E T2765 135 #[.val (.int x0), .val (.int x1), .val (.int x2), .val (.int x3), .val (.int (x3 &&& (15 : Int32))), .val (.int (((x3.toUInt32 >>> ((4 : Int32) &&& 31).toUInt32).toInt32) &&& (15 : Int32))), .val (.int (((x3.toUInt32 >>> ((8 : Int32) &&& 31).toUInt32).toInt32) &&& (15 : Int32))), .val (.int (((x3.toUInt32 >>> ((12 : Int32) &&& 31).toUInt32).toInt32) &&& (15 : Int32))), .val (.int (0 : Int32)), .val (.int (((x3.toUInt32 >>> ((17 : Int32) &&& 31).toUInt32).toInt32) &&& (1 : Int32))), .val (.int (((x3.toUInt32 >>> ((18 : Int32) &&& 31).toUInt32).toInt32) &&& (1 : Int32))), .val (.ref b2369), .val (.ref b2623), .unset, .unset, .unset, .unset, .unset, .unset, .unset] [(.int (1 : Int32))])
      refine go_pop (pc' := 136) W2765 d0_135 rfl rfl ?_
      refine go_aload (pc' := 138) W2765 d0_136 rfl rfl rfl ?_
      refine go_iload (pc' := 140) W2765 d0_138 rfl rfl ?_
      refine go_callS (kc := K5) (argsL := [(.int (((x3.toUInt32 >>> ((12 : Int32) &&& 31).toUInt32).toInt32) &&& (15 : Int32)))]) (rest := [(.ref b2623)]) (pc' := 143) W2765 (w29 hw) (w30 hw) (w31 hw) (w32 hw) (rm5 E.l Z a0 hw (((x3.toUInt32 >>> ((12 : Int32) &&& 31).toUInt32).toInt32) &&& (15 : Int32)) h2765 n0 z2811 (Sta.kept Sa k2810)) (by decide) pd20 rfl rfl rfl (nb rfl) (nb rfl) (nb rfl) (nb rfl) d0_140 rfl ?_
      rintro _ T2820 h2820 ⟨b2820, x2820, rfl, gb2820, sb2820, gx2820, sx2820, nbx2820, K2820, B2820⟩ W2820
      have ne2821 : el ≠ b2820 := Nat.ne_of_lt (Nat.lt_of_lt_of_le f2784.lt sb2820)
      have ne2822 : b2369 ≠ b2820 := Nat.ne_of_lt (Nat.lt_of_lt_of_le f2786.lt sb2820)
      have ne2823 : b2395 ≠ b2820 := Nat.ne_of_lt (Nat.lt_of_lt_of_le f2787.lt sb2820)
      have ne2824 : b2414 ≠ b2820 := Nat.ne_of_lt (Nat.lt_of_lt_of_le f2790.lt sb2820)
      have ne2825 : y2459 ≠ b2820 := Nat.ne_of_lt (Nat.lt_of_lt_of_le f2793.lt sb2820)
      have ne2826 : b2487 ≠ b2820 := Nat.ne_of_lt (Nat.lt_of_lt_of_le f2794.lt sb2820)
      have ne2827 : b2520 ≠ b2820 := Nat.ne_of_lt (Nat.lt_of_lt_of_le f2797.lt sb2820)
      have ne2828 : b2623 ≠ b2820 := Nat.ne_of_lt (Nat.lt_of_lt_of_le f2803.lt sb2820)
      have ne2829 : b2702 ≠ b2820 := Nat.ne_of_lt (Nat.lt_of_lt_of_le f2809.lt sb2820)
      have ne2830 : de ≠ b2820 := Nat.ne_of_lt (Nat.lt_of_lt_of_le f2812.lt sb2820)
      have ne2831 : es ≠ b2820 := Nat.ne_of_lt (Nat.lt_of_lt_of_le f2813.lt sb2820)
      have ne2832 : y2765 ≠ b2820 := Nat.ne_of_lt (Nat.lt_of_lt_of_le ay2765.lt sb2820)
      have ne2833 : b2414 ≠ b2820 := Nat.ne_of_lt (Nat.lt_of_lt_of_le ob2789.1.lt sb2820)
      have ne2834 : x2414 ≠ b2820 := Nat.ne_of_lt (Nat.lt_of_lt_of_le ob2789.ltx sb2820)
      have ne2835 : b2520 ≠ b2820 := Nat.ne_of_lt (Nat.lt_of_lt_of_le ob2796.1.lt sb2820)
      have ne2836 : x2520 ≠ b2820 := Nat.ne_of_lt (Nat.lt_of_lt_of_le ob2796.ltx sb2820)
      have ne2837 : b2702 ≠ b2820 := Nat.ne_of_lt (Nat.lt_of_lt_of_le ob2808.1.lt sb2820)
      have ne2838 : x2702 ≠ b2820 := Nat.ne_of_lt (Nat.lt_of_lt_of_le ob2808.ltx sb2820)
      have old2839 : h0.size ≤ b2820 := Nat.le_trans k2810.1 sb2820
      have ne2840 : el ≠ x2820 := Nat.ne_of_lt (Nat.lt_of_lt_of_le f2784.lt sx2820)
      have ne2841 : b2369 ≠ x2820 := Nat.ne_of_lt (Nat.lt_of_lt_of_le f2786.lt sx2820)
      have ne2842 : b2395 ≠ x2820 := Nat.ne_of_lt (Nat.lt_of_lt_of_le f2787.lt sx2820)
      have ne2843 : b2414 ≠ x2820 := Nat.ne_of_lt (Nat.lt_of_lt_of_le f2790.lt sx2820)
      have ne2844 : y2459 ≠ x2820 := Nat.ne_of_lt (Nat.lt_of_lt_of_le f2793.lt sx2820)
      have ne2845 : b2487 ≠ x2820 := Nat.ne_of_lt (Nat.lt_of_lt_of_le f2794.lt sx2820)
      have ne2846 : b2520 ≠ x2820 := Nat.ne_of_lt (Nat.lt_of_lt_of_le f2797.lt sx2820)
      have ne2847 : b2623 ≠ x2820 := Nat.ne_of_lt (Nat.lt_of_lt_of_le f2803.lt sx2820)
      have ne2848 : b2702 ≠ x2820 := Nat.ne_of_lt (Nat.lt_of_lt_of_le f2809.lt sx2820)
      have ne2849 : de ≠ x2820 := Nat.ne_of_lt (Nat.lt_of_lt_of_le f2812.lt sx2820)
      have ne2850 : es ≠ x2820 := Nat.ne_of_lt (Nat.lt_of_lt_of_le f2813.lt sx2820)
      have ne2851 : y2765 ≠ x2820 := Nat.ne_of_lt (Nat.lt_of_lt_of_le ay2765.lt sx2820)
      have ne2852 : b2414 ≠ x2820 := Nat.ne_of_lt (Nat.lt_of_lt_of_le ob2789.1.lt sx2820)
      have ne2853 : x2414 ≠ x2820 := Nat.ne_of_lt (Nat.lt_of_lt_of_le ob2789.ltx sx2820)
      have ne2854 : b2520 ≠ x2820 := Nat.ne_of_lt (Nat.lt_of_lt_of_le ob2796.1.lt sx2820)
      have ne2855 : x2520 ≠ x2820 := Nat.ne_of_lt (Nat.lt_of_lt_of_le ob2796.ltx sx2820)
      have ne2856 : b2702 ≠ x2820 := Nat.ne_of_lt (Nat.lt_of_lt_of_le ob2808.1.lt sx2820)
      have ne2857 : x2702 ≠ x2820 := Nat.ne_of_lt (Nat.lt_of_lt_of_le ob2808.ltx sx2820)
      have old2858 : h0.size ≤ x2820 := Nat.le_trans k2810.1 sx2820
      have f2859 := f2784.keep K2820
      have f2860 := f2785.keep K2820 nin0
      have f2861 := f2786.keep K2820
      have f2862 := f2787.keep K2820
      have ob2864 := own_B.keep ob2789 K2820 nin0 nin0
      have f2865 := f2790.keep K2820
      have f2866 := f2791.keep K2820 nin0
      have f2867 := f2792.keep K2820 nin0
      have f2868 := f2793.keep K2820
      have f2869 := f2794.keep K2820
      have ob2871 := own_B.keep ob2796 K2820 nin0 nin0
      have f2872 := f2797.keep K2820
      have f2873 := f2798.keep K2820 nin0
      have f2874 := f2799.keep K2820 nin0
      have f2875 := f2800.keep K2820 nin0
      have f2876 := f2801.keep K2820 nin0
      have f2877 := f2802.keep K2820 nin0
      have f2878 := f2803.keep K2820
      have ob2880 := own_B.keep ob2808 K2820 nin0 nin0
      have f2881 := f2809.keep K2820
      have f2882 := g2765_0.keep K2820 nin0
      have f2883 := g2765_1.keep K2820 nin0
      have f2884 := g2765_2.keep K2820 nin0
      have f2885 := ey2765.keep K2820
      have k2886 := k2810.trans K2820 all0
      have z2887 := Nat.le_trans z2811 K2820.1
      have f2888 := f2812.keep K2820 nin0
      have f2889 := f2813.keep K2820 nin0
      have f2890 := f2814.keep K2820 nin0
      have f2891 := ay2765.keep K2820 nin0
      have f2892 := Ins.keepK f2815 K2820
      have f2893 := Ins.keepK f2816 K2820
      have f2894 := Ins.keepK f2817 K2820
      have f2895 := Ins.keepK f2818 K2820
      have f2896 := Ins.keepK f2819 K2820
      have I2820 := own_B.ins hw B2820
      show Go E _ (Fm E T2820 143 #[.val (.int x0), .val (.int x1), .val (.int x2), .val (.int x3), .val (.int (x3 &&& (15 : Int32))), .val (.int (((x3.toUInt32 >>> ((4 : Int32) &&& 31).toUInt32).toInt32) &&& (15 : Int32))), .val (.int (((x3.toUInt32 >>> ((8 : Int32) &&& 31).toUInt32).toInt32) &&& (15 : Int32))), .val (.int (((x3.toUInt32 >>> ((12 : Int32) &&& 31).toUInt32).toInt32) &&& (15 : Int32))), .val (.int (0 : Int32)), .val (.int (((x3.toUInt32 >>> ((17 : Int32) &&& 31).toUInt32).toInt32) &&& (1 : Int32))), .val (.int (((x3.toUInt32 >>> ((18 : Int32) &&& 31).toUInt32).toInt32) &&& (1 : Int32))), .val (.ref b2369), .val (.ref b2623), .unset, .unset, .unset, .unset, .unset, .unset, .unset] [(.ref b2820), (.ref b2623)])
      refine go_callV (a := b2623) (kc := K15) (argsL := [(.ref b2820)]) (rest := []) (pc' := 146) W2820 (w89 hw) (w90 hw) (nf_sel W2820 (w92 hw)) (w92 hw) (w91 hw) (w2 hw) (w93 hw) f2878 (rmA_1 E.l Z a0 hw b2623 b2820 y2765 ((0 : Int32) + (1 : Int32)) b2702 h2820 n0 z2887 f2878 f2882 f2883 f2884 ge2633 gy2765 ne2773 f2891 f2885 I2820) (by decide) pd22 rfl rfl rfl (nb rfl) (nb rfl) (nb rfl) (nb rfl) d0_143 rfl ?_
      rintro _ T2897 h2897 ⟨rfl, K2897, g2897_0, g2897_1, g2897_2, ay2897⟩ W2897
      have f2898 := f2859.keep K2897
      have f2899 := f2860.keep K2897 (ninS ne2624 (ninS ne2766 nin0))
      have f2900 := f2861.keep K2897
      have f2901 := f2862.keep K2897
      have ob2903 := own_B.keep ob2864 K2897 (ninS ne2635 (ninS ne2777 nin0)) (ninS ne2636 (ninS ne2778 nin0))
      have f2904 := f2865.keep K2897
      have f2905 := f2866.keep K2897 (ninS ne2626 (ninS ne2768 nin0))
      have f2906 := f2867.keep K2897 (ninS ne2626 (ninS ne2768 nin0))
      have f2907 := f2868.keep K2897
      have f2908 := f2869.keep K2897
      have ob2910 := own_B.keep ob2871 K2897 (ninS ne2637 (ninS ne2779 nin0)) (ninS ne2638 (ninS ne2780 nin0))
      have f2911 := f2872.keep K2897
      have f2912 := f2873.keep K2897 (ninS ne2629 (ninS ne2771 nin0))
      have f2913 := f2874.keep K2897 (ninS ne2629 (ninS ne2771 nin0))
      have f2914 := f2875.keep K2897 (ninS ne2625 (ninS ne2767 nin0))
      have f2915 := f2876.keep K2897 (ninS ne2625 (ninS ne2767 nin0))
      have f2916 := f2877.keep K2897 (ninS ne2625 (ninS ne2767 nin0))
      have f2917 := f2878.keep K2897
      have ob2919 := own_B.keep ob2880 K2897 (ninS (Ne.symm ne2710) (ninS ne2781 nin0)) (ninS (Ne.symm ne2725) (ninS ne2782 nin0))
      have f2920 := f2881.keep K2897
      have f2924 := f2885.keep K2897
      have ob2926 := own_B.keep B2820 K2897 (ninS (Ne.symm ne2828) (ninS (Ne.symm ne2832) nin0)) (ninS (Ne.symm ne2847) (ninS (Ne.symm ne2851) nin0))
      have f2927 := B2820.1.keep K2897
      have k2928 := k2886.trans K2897 (allS (Or.inr old2634) (allS (Or.inr old2783) all0))
      have z2929 := Nat.le_trans z2887 K2897.1
      have f2930 := f2888.keep K2897 (ninS ne2631 (ninS ne2774 nin0))
      have f2931 := f2889.keep K2897 (ninS ne2632 (ninS ne2775 nin0))
      have f2932 := f2890.keep K2897 (ninS ne2628 (ninS ne2770 nin0))
      have f2933 := Ins.keepK f2892 K2897
      have f2934 := Ins.keepK f2893 K2897
      have f2935 := Ins.keepK f2894 K2897
      have f2936 := Ins.keepK f2895 K2897
      have f2937 := Ins.keepK f2896 K2897
      have f2938 := Ins.keepK I2820 K2897
      show Go E _ (Fm E T2897 146 #[.val (.int x0), .val (.int x1), .val (.int x2), .val (.int x3), .val (.int (x3 &&& (15 : Int32))), .val (.int (((x3.toUInt32 >>> ((4 : Int32) &&& 31).toUInt32).toInt32) &&& (15 : Int32))), .val (.int (((x3.toUInt32 >>> ((8 : Int32) &&& 31).toUInt32).toInt32) &&& (15 : Int32))), .val (.int (((x3.toUInt32 >>> ((12 : Int32) &&& 31).toUInt32).toInt32) &&& (15 : Int32))), .val (.int (0 : Int32)), .val (.int (((x3.toUInt32 >>> ((17 : Int32) &&& 31).toUInt32).toInt32) &&& (1 : Int32))), .val (.int (((x3.toUInt32 >>> ((18 : Int32) &&& 31).toUInt32).toInt32) &&& (1 : Int32))), .val (.ref b2369), .val (.ref b2623), .unset, .unset, .unset, .unset, .unset, .unset, .unset] [(.int (1 : Int32))])
      refine go_pop (pc' := 147) W2897 d0_146 rfl rfl ?_
      refine go_new (pc' := 150) W2897 (w0 hw) (w1 hw) (w2 hw) d0_147 (nb rfl) (nb rfl) rfl ?_
      intro T2939 h2939 b2939 g2939 W2939 E2939 A2939 D2939 M2939
      have ne2940 : el ≠ b2939 := by rw [g2939]; exact Nat.ne_of_lt f2898.lt
      have ne2941 : b2369 ≠ b2939 := by rw [g2939]; exact Nat.ne_of_lt f2900.lt
      have ne2942 : b2395 ≠ b2939 := by rw [g2939]; exact Nat.ne_of_lt f2901.lt
      have ne2943 : b2414 ≠ b2939 := by rw [g2939]; exact Nat.ne_of_lt f2904.lt
      have ne2944 : y2459 ≠ b2939 := by rw [g2939]; exact Nat.ne_of_lt f2907.lt
      have ne2945 : b2487 ≠ b2939 := by rw [g2939]; exact Nat.ne_of_lt f2908.lt
      have ne2946 : b2520 ≠ b2939 := by rw [g2939]; exact Nat.ne_of_lt f2911.lt
      have ne2947 : b2623 ≠ b2939 := by rw [g2939]; exact Nat.ne_of_lt f2917.lt
      have ne2948 : b2702 ≠ b2939 := by rw [g2939]; exact Nat.ne_of_lt f2920.lt
      have ne2949 : y2765 ≠ b2939 := by rw [g2939]; exact Nat.ne_of_lt f2924.lt
      have ne2950 : b2820 ≠ b2939 := by rw [g2939]; exact Nat.ne_of_lt f2927.lt
      have ne2951 : de ≠ b2939 := by rw [g2939]; exact Nat.ne_of_lt f2930.lt
      have ne2952 : es ≠ b2939 := by rw [g2939]; exact Nat.ne_of_lt f2931.lt
      have ge2953 : n0 ≤ b2939 := by rw [g2939]; exact z2929
      have old2954 : h0.size ≤ b2939 := by rw [g2939]; exact k2928.1
      have ne2955 : b2414 ≠ b2939 := by rw [g2939]; exact Nat.ne_of_lt ob2903.1.lt
      have ne2956 : x2414 ≠ b2939 := by rw [g2939]; exact Nat.ne_of_lt ob2903.ltx
      have ne2957 : b2520 ≠ b2939 := by rw [g2939]; exact Nat.ne_of_lt ob2910.1.lt
      have ne2958 : x2520 ≠ b2939 := by rw [g2939]; exact Nat.ne_of_lt ob2910.ltx
      have ne2959 : b2702 ≠ b2939 := by rw [g2939]; exact Nat.ne_of_lt ob2919.1.lt
      have ne2960 : x2702 ≠ b2939 := by rw [g2939]; exact Nat.ne_of_lt ob2919.ltx
      have ne2961 : b2820 ≠ b2939 := by rw [g2939]; exact Nat.ne_of_lt ob2926.1.lt
      have ne2962 : x2820 ≠ b2939 := by rw [g2939]; exact Nat.ne_of_lt ob2926.ltx
      have f2963 := f2898.ext E2939
      have f2964 := f2899.ext E2939
      have f2965 := f2900.ext E2939
      have f2966 := f2901.ext E2939
      have ob2967 := own_B.keep ob2903 ((Keep.refl _ []).ext E2939) nin0 nin0
      have f2968 := f2904.ext E2939
      have f2969 := f2905.ext E2939
      have f2970 := f2906.ext E2939
      have f2971 := f2907.ext E2939
      have f2972 := f2908.ext E2939
      have ob2973 := own_B.keep ob2910 ((Keep.refl _ []).ext E2939) nin0 nin0
      have f2974 := f2911.ext E2939
      have f2975 := f2912.ext E2939
      have f2976 := f2913.ext E2939
      have f2977 := f2914.ext E2939
      have f2978 := f2915.ext E2939
      have f2979 := f2916.ext E2939
      have f2980 := f2917.ext E2939
      have ob2981 := own_B.keep ob2919 ((Keep.refl _ []).ext E2939) nin0 nin0
      have f2982 := f2920.ext E2939
      have f2983 := f2924.ext E2939
      have ob2984 := own_B.keep ob2926 ((Keep.refl _ []).ext E2939) nin0 nin0
      have f2985 := f2927.ext E2939
      have f2986 := f2930.ext E2939
      have f2987 := f2931.ext E2939
      have f2988 := f2932.ext E2939
      have f2989 := f2933.ext E2939
      have f2990 := f2934.ext E2939
      have f2991 := f2935.ext E2939
      have f2992 := f2936.ext E2939
      have f2993 := f2937.ext E2939
      have f2994 := f2938.ext E2939
      have f2995 := g2897_0.ext E2939
      have f2996 := g2897_1.ext E2939
      have f2997 := g2897_2.ext E2939
      have f2998 := ay2897.ext E2939
      have k2999 := k2928.ext E2939
      have z3000 := Nat.le_trans z2929 E2939.1
      have f3001 : Fld Z h2939 b2939 "java/util/AbstractList" "modCount" "I" (.int (0 : Int32)) := D2939 (Or.inl (w22 hw)) (ty := .int) (by decide)
      have f3002 : Fld Z h2939 b2939 "java/util/ArrayList" "elementData" "[Ljava/lang/Object;" .null := D2939 (Or.inl (w25 hw)) (ty := (.array (.object "java/lang/Object"))) (by decide)
      have f3003 : Fld Z h2939 b2939 "java/util/ArrayList" "size" "I" (.int (0 : Int32)) := D2939 (Or.inl (w97 hw)) (ty := .int) (by decide)
      refine go_dup (pc' := 151) W2939 d0_150 rfl rfl ?_
      refine go_callN (a := b2939) (kc := K1) (argsL := []) (rest := [(.ref b2939)]) (pc' := 154) W2939 (w3 hw) (w4 hw) (w2 hw) (w5 hw) (rm1 E.l Z a0 hw b2939 de h2939 n0 z3000 A2939 f3001 f3002 f3003 ge2953 (Sta.kept Sd k2999)) rfl rfl (by decide) pd0 rfl rfl rfl (nb rfl) (nb rfl) (nb rfl) (nb rfl) d0_151 rfl ?_
      rintro _ T3004 h3004 ⟨rfl, K3004, g3004_0, g3004_1, g3004_2⟩ W3004
      have f3005 := f2963.keep K3004
      have f3006 := f2964.keep K3004 (ninS ne2940 nin0)
      have f3007 := f2965.keep K3004
      have f3008 := f2966.keep K3004
      have ob3010 := own_B.keep ob2967 K3004 (ninS ne2955 nin0) (ninS ne2956 nin0)
      have f3011 := f2968.keep K3004
      have f3012 := f2969.keep K3004 (ninS ne2942 nin0)
      have f3013 := f2970.keep K3004 (ninS ne2942 nin0)
      have f3014 := f2971.keep K3004
      have f3015 := f2972.keep K3004
      have ob3017 := own_B.keep ob2973 K3004 (ninS ne2957 nin0) (ninS ne2958 nin0)
      have f3018 := f2974.keep K3004
      have f3019 := f2975.keep K3004 (ninS ne2945 nin0)
      have f3020 := f2976.keep K3004 (ninS ne2945 nin0)
      have f3021 := f2977.keep K3004 (ninS ne2941 nin0)
      have f3022 := f2978.keep K3004 (ninS ne2941 nin0)
      have f3023 := f2979.keep K3004 (ninS ne2941 nin0)
      have f3024 := f2980.keep K3004
      have ob3026 := own_B.keep ob2981 K3004 (ninS ne2959 nin0) (ninS ne2960 nin0)
      have f3027 := f2982.keep K3004
      have f3028 := f2983.keep K3004
      have ob3030 := own_B.keep ob2984 K3004 (ninS ne2961 nin0) (ninS ne2962 nin0)
      have f3031 := f2985.keep K3004
      have f3032 := f2995.keep K3004 (ninS ne2947 nin0)
      have f3033 := f2996.keep K3004 (ninS ne2947 nin0)
      have f3034 := f2997.keep K3004 (ninS ne2947 nin0)
      have f3035 := A2939.keep K3004
      have k3039 := k2999.trans K3004 (allS (Or.inr old2954) all0)
      have z3040 := Nat.le_trans z3000 K3004.1
      have f3041 := f2986.keep K3004 (ninS ne2951 nin0)
      have f3042 := f2987.keep K3004 (ninS ne2952 nin0)
      have f3043 := f2988.keep K3004 (ninS ne2944 nin0)
      have f3044 := f2998.keep K3004 (ninS ne2949 nin0)
      have f3045 := Ins.keepK f2989 K3004
      have f3046 := Ins.keepK f2990 K3004
      have f3047 := Ins.keepK f2991 K3004
      have f3048 := Ins.keepK f2992 K3004
      have f3049 := Ins.keepK f2993 K3004
      have f3050 := Ins.keepK f2994 K3004
      show Go E _ (Fm E T3004 154 #[.val (.int x0), .val (.int x1), .val (.int x2), .val (.int x3), .val (.int (x3 &&& (15 : Int32))), .val (.int (((x3.toUInt32 >>> ((4 : Int32) &&& 31).toUInt32).toInt32) &&& (15 : Int32))), .val (.int (((x3.toUInt32 >>> ((8 : Int32) &&& 31).toUInt32).toInt32) &&& (15 : Int32))), .val (.int (((x3.toUInt32 >>> ((12 : Int32) &&& 31).toUInt32).toInt32) &&& (15 : Int32))), .val (.int (0 : Int32)), .val (.int (((x3.toUInt32 >>> ((17 : Int32) &&& 31).toUInt32).toInt32) &&& (1 : Int32))), .val (.int (((x3.toUInt32 >>> ((18 : Int32) &&& 31).toUInt32).toInt32) &&& (1 : Int32))), .val (.ref b2369), .val (.ref b2623), .unset, .unset, .unset, .unset, .unset, .unset, .unset] [(.ref b2939)])
      refine go_astore (pc' := 156) (l' := #[.val (.int x0), .val (.int x1), .val (.int x2), .val (.int x3), .val (.int (x3 &&& (15 : Int32))), .val (.int (((x3.toUInt32 >>> ((4 : Int32) &&& 31).toUInt32).toInt32) &&& (15 : Int32))), .val (.int (((x3.toUInt32 >>> ((8 : Int32) &&& 31).toUInt32).toInt32) &&& (15 : Int32))), .val (.int (((x3.toUInt32 >>> ((12 : Int32) &&& 31).toUInt32).toInt32) &&& (15 : Int32))), .val (.int (0 : Int32)), .val (.int (((x3.toUInt32 >>> ((17 : Int32) &&& 31).toUInt32).toInt32) &&& (1 : Int32))), .val (.int (((x3.toUInt32 >>> ((18 : Int32) &&& 31).toUInt32).toInt32) &&& (1 : Int32))), .val (.ref b2369), .val (.ref b2623), .val (.ref b2939), .unset, .unset, .unset, .unset, .unset, .unset]) W3004 d0_154 rfl rfl rfl ?_
      refine go_new (pc' := 159) W3004 (w121 hw) (w122 hw) (w123 hw) d0_156 (nb rfl) (nb rfl) rfl ?_
      intro T3051 h3051 b3051 g3051 W3051 E3051 A3051 D3051 M3051
      have ne3052 : el ≠ b3051 := by rw [g3051]; exact Nat.ne_of_lt f3005.lt
      have ne3053 : b2369 ≠ b3051 := by rw [g3051]; exact Nat.ne_of_lt f3007.lt
      have ne3054 : b2395 ≠ b3051 := by rw [g3051]; exact Nat.ne_of_lt f3008.lt
      have ne3055 : b2414 ≠ b3051 := by rw [g3051]; exact Nat.ne_of_lt f3011.lt
      have ne3056 : y2459 ≠ b3051 := by rw [g3051]; exact Nat.ne_of_lt f3014.lt
      have ne3057 : b2487 ≠ b3051 := by rw [g3051]; exact Nat.ne_of_lt f3015.lt
      have ne3058 : b2520 ≠ b3051 := by rw [g3051]; exact Nat.ne_of_lt f3018.lt
      have ne3059 : b2623 ≠ b3051 := by rw [g3051]; exact Nat.ne_of_lt f3024.lt
      have ne3060 : b2702 ≠ b3051 := by rw [g3051]; exact Nat.ne_of_lt f3027.lt
      have ne3061 : y2765 ≠ b3051 := by rw [g3051]; exact Nat.ne_of_lt f3028.lt
      have ne3062 : b2820 ≠ b3051 := by rw [g3051]; exact Nat.ne_of_lt f3031.lt
      have ne3063 : b2939 ≠ b3051 := by rw [g3051]; exact Nat.ne_of_lt f3035.lt
      have ne3064 : de ≠ b3051 := by rw [g3051]; exact Nat.ne_of_lt f3041.lt
      have ne3065 : es ≠ b3051 := by rw [g3051]; exact Nat.ne_of_lt f3042.lt
      have ge3066 : n0 ≤ b3051 := by rw [g3051]; exact z3040
      have old3067 : h0.size ≤ b3051 := by rw [g3051]; exact k3039.1
      have ne3068 : b2414 ≠ b3051 := by rw [g3051]; exact Nat.ne_of_lt ob3010.1.lt
      have ne3069 : x2414 ≠ b3051 := by rw [g3051]; exact Nat.ne_of_lt ob3010.ltx
      have ne3070 : b2520 ≠ b3051 := by rw [g3051]; exact Nat.ne_of_lt ob3017.1.lt
      have ne3071 : x2520 ≠ b3051 := by rw [g3051]; exact Nat.ne_of_lt ob3017.ltx
      have ne3072 : b2702 ≠ b3051 := by rw [g3051]; exact Nat.ne_of_lt ob3026.1.lt
      have ne3073 : x2702 ≠ b3051 := by rw [g3051]; exact Nat.ne_of_lt ob3026.ltx
      have ne3074 : b2820 ≠ b3051 := by rw [g3051]; exact Nat.ne_of_lt ob3030.1.lt
      have ne3075 : x2820 ≠ b3051 := by rw [g3051]; exact Nat.ne_of_lt ob3030.ltx
      have f3076 := f3005.ext E3051
      have f3077 := f3006.ext E3051
      have f3078 := f3007.ext E3051
      have f3079 := f3008.ext E3051
      have ob3080 := own_B.keep ob3010 ((Keep.refl _ []).ext E3051) nin0 nin0
      have f3081 := f3011.ext E3051
      have f3082 := f3012.ext E3051
      have f3083 := f3013.ext E3051
      have f3084 := f3014.ext E3051
      have f3085 := f3015.ext E3051
      have ob3086 := own_B.keep ob3017 ((Keep.refl _ []).ext E3051) nin0 nin0
      have f3087 := f3018.ext E3051
      have f3088 := f3019.ext E3051
      have f3089 := f3020.ext E3051
      have f3090 := f3021.ext E3051
      have f3091 := f3022.ext E3051
      have f3092 := f3023.ext E3051
      have f3093 := f3024.ext E3051
      have ob3094 := own_B.keep ob3026 ((Keep.refl _ []).ext E3051) nin0 nin0
      have f3095 := f3027.ext E3051
      have f3096 := f3028.ext E3051
      have ob3097 := own_B.keep ob3030 ((Keep.refl _ []).ext E3051) nin0 nin0
      have f3098 := f3031.ext E3051
      have f3099 := f3032.ext E3051
      have f3100 := f3033.ext E3051
      have f3101 := f3034.ext E3051
      have f3102 := f3035.ext E3051
      have f3103 := f3041.ext E3051
      have f3104 := f3042.ext E3051
      have f3105 := f3043.ext E3051
      have f3106 := f3044.ext E3051
      have f3107 := f3045.ext E3051
      have f3108 := f3046.ext E3051
      have f3109 := f3047.ext E3051
      have f3110 := f3048.ext E3051
      have f3111 := f3049.ext E3051
      have f3112 := f3050.ext E3051
      have f3113 := g3004_0.ext E3051
      have f3114 := g3004_1.ext E3051
      have f3115 := g3004_2.ext E3051
      have k3116 := k3039.ext E3051
      have z3117 := Nat.le_trans z3040 E3051.1
      have f3118 : Fld Z h3051 b3051 "com/example/slotwright/slotwright/EnrolmentInstance" "events" "I" (.int (0 : Int32)) := D3051 (Or.inr (w129 hw)) (ty := .int) (by decide)
      have f3119 : Fld Z h3051 b3051 "com/example/slotwright/slotwright/EnrolmentInstance" "rooms" "Ljava/util/List;" .null := D3051 (Or.inr (w216 hw)) (ty := (.object "java/util/List")) (by decide)
      have f3120 : Fld Z h3051 b3051 "com/example/slotwright/slotwright/EnrolmentInstance" "eventFeatures" "Ljava/util/List;" .null := D3051 (Or.inr (w218 hw)) (ty := (.object "java/util/List")) (by decide)
      have f3121 : Fld Z h3051 b3051 "com/example/slotwright/slotwright/EnrolmentInstance" "attendance" "Ljava/util/List;" .null := D3051 (Or.inr (w224 hw)) (ty := (.object "java/util/List")) (by decide)
      refine go_dup (pc' := 160) W3051 d0_159 rfl rfl ?_
      refine go_iconst (pc' := 161) (z := 2) W3051 d0_160 rfl rfl ?_
      refine go_aload (pc' := 163) W3051 d0_161 rfl rfl rfl ?_
      refine go_aload (pc' := 165) W3051 d0_163 rfl rfl rfl ?_
      refine go_aload (pc' := 167) W3051 d0_165 rfl rfl rfl ?_
      refine go_callN (a := b3051) (kc := K20) (argsL := [(.int (2 : Int32)), (.ref b2369), (.ref b2623), (.ref b2939)]) (rest := [(.ref b3051)]) (pc' := 170) W3051 (w124 hw) (w125 hw) (w123 hw) (w126 hw) (rmEI_S E.l Z a0 hw b3051 b2369 b2623 b2939 (((0 : Int32) + (1 : Int32)) + (1 : Int32)) (((0 : Int32) + (1 : Int32)) + (1 : Int32)) (0 : Int32) y2459 b2395 b2487 y2765 b2702 b2820 de el mr h3051 n0 z3117 A3051 f3118 f3119 f3120 f3121 ge3066 f3078 f3090 f3091 f3092 ne2461 f3105 f3084 f3108 f3110 (Ne.symm ne3053) (Ne.symm ne3056) f3093 f3099 f3100 f3101 ne2773 f3106 f3096 f3111 f3112 (Ne.symm ne3059) (Ne.symm ne3061) f3102 f3113 f3114 f3115 (Ne.symm ne3063) Mr (Sta.kept Sl k3116)) rfl rfl (by decide) pd23 rfl rfl rfl (nb rfl) (nb rfl) (nb rfl) (nb rfl) d0_167 rfl ?_
      rintro _ T3122 h3122 ⟨ta3122, tb3122, rfl, sa3122, sb3122, K3122, g3122_0, g3122_1, g3122_2, g3122_3, ⟨etp3122, kp3122_0, kp3122_1⟩, etq3122, kq3122_0, kq3122_1⟩ W3122
      have ne3123 : el ≠ ta3122 := Nat.ne_of_lt (Nat.lt_of_lt_of_le f3076.lt sa3122)
      have ne3124 : b2369 ≠ ta3122 := Nat.ne_of_lt (Nat.lt_of_lt_of_le f3078.lt sa3122)
      have ne3125 : b2395 ≠ ta3122 := Nat.ne_of_lt (Nat.lt_of_lt_of_le f3079.lt sa3122)
      have ne3126 : b2414 ≠ ta3122 := Nat.ne_of_lt (Nat.lt_of_lt_of_le f3081.lt sa3122)
      have ne3127 : y2459 ≠ ta3122 := Nat.ne_of_lt (Nat.lt_of_lt_of_le f3084.lt sa3122)
      have ne3128 : b2487 ≠ ta3122 := Nat.ne_of_lt (Nat.lt_of_lt_of_le f3085.lt sa3122)
      have ne3129 : b2520 ≠ ta3122 := Nat.ne_of_lt (Nat.lt_of_lt_of_le f3087.lt sa3122)
      have ne3130 : b2623 ≠ ta3122 := Nat.ne_of_lt (Nat.lt_of_lt_of_le f3093.lt sa3122)
      have ne3131 : b2702 ≠ ta3122 := Nat.ne_of_lt (Nat.lt_of_lt_of_le f3095.lt sa3122)
      have ne3132 : y2765 ≠ ta3122 := Nat.ne_of_lt (Nat.lt_of_lt_of_le f3096.lt sa3122)
      have ne3133 : b2820 ≠ ta3122 := Nat.ne_of_lt (Nat.lt_of_lt_of_le f3098.lt sa3122)
      have ne3134 : b2939 ≠ ta3122 := Nat.ne_of_lt (Nat.lt_of_lt_of_le f3102.lt sa3122)
      have ne3135 : de ≠ ta3122 := Nat.ne_of_lt (Nat.lt_of_lt_of_le f3103.lt sa3122)
      have ne3136 : es ≠ ta3122 := Nat.ne_of_lt (Nat.lt_of_lt_of_le f3104.lt sa3122)
      have ne3137 : b3051 ≠ ta3122 := Nat.ne_of_lt (Nat.lt_of_lt_of_le A3051.lt sa3122)
      have ne3138 : b2414 ≠ ta3122 := Nat.ne_of_lt (Nat.lt_of_lt_of_le ob3080.1.lt sa3122)
      have ne3139 : x2414 ≠ ta3122 := Nat.ne_of_lt (Nat.lt_of_lt_of_le ob3080.ltx sa3122)
      have ne3140 : b2520 ≠ ta3122 := Nat.ne_of_lt (Nat.lt_of_lt_of_le ob3086.1.lt sa3122)
      have ne3141 : x2520 ≠ ta3122 := Nat.ne_of_lt (Nat.lt_of_lt_of_le ob3086.ltx sa3122)
      have ne3142 : b2702 ≠ ta3122 := Nat.ne_of_lt (Nat.lt_of_lt_of_le ob3094.1.lt sa3122)
      have ne3143 : x2702 ≠ ta3122 := Nat.ne_of_lt (Nat.lt_of_lt_of_le ob3094.ltx sa3122)
      have ne3144 : b2820 ≠ ta3122 := Nat.ne_of_lt (Nat.lt_of_lt_of_le ob3097.1.lt sa3122)
      have ne3145 : x2820 ≠ ta3122 := Nat.ne_of_lt (Nat.lt_of_lt_of_le ob3097.ltx sa3122)
      have old3146 : h0.size ≤ ta3122 := Nat.le_trans k3116.1 sa3122
      have ne3147 : el ≠ tb3122 := Nat.ne_of_lt (Nat.lt_of_lt_of_le f3076.lt sb3122)
      have ne3148 : b2369 ≠ tb3122 := Nat.ne_of_lt (Nat.lt_of_lt_of_le f3078.lt sb3122)
      have ne3149 : b2395 ≠ tb3122 := Nat.ne_of_lt (Nat.lt_of_lt_of_le f3079.lt sb3122)
      have ne3150 : b2414 ≠ tb3122 := Nat.ne_of_lt (Nat.lt_of_lt_of_le f3081.lt sb3122)
      have ne3151 : y2459 ≠ tb3122 := Nat.ne_of_lt (Nat.lt_of_lt_of_le f3084.lt sb3122)
      have ne3152 : b2487 ≠ tb3122 := Nat.ne_of_lt (Nat.lt_of_lt_of_le f3085.lt sb3122)
      have ne3153 : b2520 ≠ tb3122 := Nat.ne_of_lt (Nat.lt_of_lt_of_le f3087.lt sb3122)
      have ne3154 : b2623 ≠ tb3122 := Nat.ne_of_lt (Nat.lt_of_lt_of_le f3093.lt sb3122)
      have ne3155 : b2702 ≠ tb3122 := Nat.ne_of_lt (Nat.lt_of_lt_of_le f3095.lt sb3122)
      have ne3156 : y2765 ≠ tb3122 := Nat.ne_of_lt (Nat.lt_of_lt_of_le f3096.lt sb3122)
      have ne3157 : b2820 ≠ tb3122 := Nat.ne_of_lt (Nat.lt_of_lt_of_le f3098.lt sb3122)
      have ne3158 : b2939 ≠ tb3122 := Nat.ne_of_lt (Nat.lt_of_lt_of_le f3102.lt sb3122)
      have ne3159 : de ≠ tb3122 := Nat.ne_of_lt (Nat.lt_of_lt_of_le f3103.lt sb3122)
      have ne3160 : es ≠ tb3122 := Nat.ne_of_lt (Nat.lt_of_lt_of_le f3104.lt sb3122)
      have ne3161 : b3051 ≠ tb3122 := Nat.ne_of_lt (Nat.lt_of_lt_of_le A3051.lt sb3122)
      have ne3162 : b2414 ≠ tb3122 := Nat.ne_of_lt (Nat.lt_of_lt_of_le ob3080.1.lt sb3122)
      have ne3163 : x2414 ≠ tb3122 := Nat.ne_of_lt (Nat.lt_of_lt_of_le ob3080.ltx sb3122)
      have ne3164 : b2520 ≠ tb3122 := Nat.ne_of_lt (Nat.lt_of_lt_of_le ob3086.1.lt sb3122)
      have ne3165 : x2520 ≠ tb3122 := Nat.ne_of_lt (Nat.lt_of_lt_of_le ob3086.ltx sb3122)
      have ne3166 : b2702 ≠ tb3122 := Nat.ne_of_lt (Nat.lt_of_lt_of_le ob3094.1.lt sb3122)
      have ne3167 : x2702 ≠ tb3122 := Nat.ne_of_lt (Nat.lt_of_lt_of_le ob3094.ltx sb3122)
      have ne3168 : b2820 ≠ tb3122 := Nat.ne_of_lt (Nat.lt_of_lt_of_le ob3097.1.lt sb3122)
      have ne3169 : x2820 ≠ tb3122 := Nat.ne_of_lt (Nat.lt_of_lt_of_le ob3097.ltx sb3122)
      have old3170 : h0.size ≤ tb3122 := Nat.le_trans k3116.1 sb3122
      have f3171 := f3076.keep K3122
      have f3172 := f3077.keep K3122 (ninS ne3052 nin0)
      have f3173 := f3078.keep K3122
      have f3174 := f3079.keep K3122
      have ob3176 := own_B.keep ob3080 K3122 (ninS ne3068 nin0) (ninS ne3069 nin0)
      have f3177 := f3081.keep K3122
      have f3178 := f3082.keep K3122 (ninS ne3054 nin0)
      have f3179 := f3083.keep K3122 (ninS ne3054 nin0)
      have f3180 := f3084.keep K3122
      have f3181 := f3085.keep K3122
      have ob3183 := own_B.keep ob3086 K3122 (ninS ne3070 nin0) (ninS ne3071 nin0)
      have f3184 := f3087.keep K3122
      have f3185 := f3088.keep K3122 (ninS ne3057 nin0)
      have f3186 := f3089.keep K3122 (ninS ne3057 nin0)
      have f3187 := f3090.keep K3122 (ninS ne3053 nin0)
      have f3188 := f3091.keep K3122 (ninS ne3053 nin0)
      have f3189 := f3092.keep K3122 (ninS ne3053 nin0)
      have f3190 := f3093.keep K3122
      have ob3192 := own_B.keep ob3094 K3122 (ninS ne3072 nin0) (ninS ne3073 nin0)
      have f3193 := f3095.keep K3122
      have f3194 := f3096.keep K3122
      have ob3196 := own_B.keep ob3097 K3122 (ninS ne3074 nin0) (ninS ne3075 nin0)
      have f3197 := f3098.keep K3122
      have f3198 := f3099.keep K3122 (ninS ne3059 nin0)
      have f3199 := f3100.keep K3122 (ninS ne3059 nin0)
      have f3200 := f3101.keep K3122 (ninS ne3059 nin0)
      have f3201 := f3102.keep K3122
      have f3202 := f3113.keep K3122 (ninS ne3063 nin0)
      have f3203 := f3114.keep K3122 (ninS ne3063 nin0)
      have f3204 := f3115.keep K3122 (ninS ne3063 nin0)
      have f3205 := A3051.keep K3122
      have k3210 := k3116.trans K3122 (allS (Or.inr old3067) all0)
      have z3211 := Nat.le_trans z3117 K3122.1
      have f3212 := f3103.keep K3122 (ninS ne3064 nin0)
      have f3213 := f3104.keep K3122 (ninS ne3065 nin0)
      have f3214 := f3105.keep K3122 (ninS ne3056 nin0)
      have f3215 := f3106.keep K3122 (ninS ne3061 nin0)
      have f3216 := Ins.keepK f3107 K3122
      have f3217 := Ins.keepK f3108 K3122
      have f3218 := Ins.keepK f3109 K3122
      have f3219 := Ins.keepK f3110 K3122
      have f3220 := Ins.keepK f3111 K3122
      have f3221 := Ins.keepK f3112 K3122
      show Go E _ (Fm E T3122 170 #[.val (.int x0), .val (.int x1), .val (.int x2), .val (.int x3), .val (.int (x3 &&& (15 : Int32))), .val (.int (((x3.toUInt32 >>> ((4 : Int32) &&& 31).toUInt32).toInt32) &&& (15 : Int32))), .val (.int (((x3.toUInt32 >>> ((8 : Int32) &&& 31).toUInt32).toInt32) &&& (15 : Int32))), .val (.int (((x3.toUInt32 >>> ((12 : Int32) &&& 31).toUInt32).toInt32) &&& (15 : Int32))), .val (.int (0 : Int32)), .val (.int (((x3.toUInt32 >>> ((17 : Int32) &&& 31).toUInt32).toInt32) &&& (1 : Int32))), .val (.int (((x3.toUInt32 >>> ((18 : Int32) &&& 31).toUInt32).toInt32) &&& (1 : Int32))), .val (.ref b2369), .val (.ref b2623), .val (.ref b2939), .unset, .unset, .unset, .unset, .unset, .unset] [(.ref b3051)])
      refine go_astore (pc' := 172) (l' := #[.val (.int x0), .val (.int x1), .val (.int x2), .val (.int x3), .val (.int (x3 &&& (15 : Int32))), .val (.int (((x3.toUInt32 >>> ((4 : Int32) &&& 31).toUInt32).toInt32) &&& (15 : Int32))), .val (.int (((x3.toUInt32 >>> ((8 : Int32) &&& 31).toUInt32).toInt32) &&& (15 : Int32))), .val (.int (((x3.toUInt32 >>> ((12 : Int32) &&& 31).toUInt32).toInt32) &&& (15 : Int32))), .val (.int (0 : Int32)), .val (.int (((x3.toUInt32 >>> ((17 : Int32) &&& 31).toUInt32).toInt32) &&& (1 : Int32))), .val (.int (((x3.toUInt32 >>> ((18 : Int32) &&& 31).toUInt32).toInt32) &&& (1 : Int32))), .val (.ref b2369), .val (.ref b2623), .val (.ref b2939), .val (.ref b3051), .unset, .unset, .unset, .unset, .unset]) W3122 d0_170 rfl rfl rfl ?_
      have hev := own_01 ((x3.toUInt32 >>> ((17 : Int32) &&& 31).toUInt32).toInt32)
      have hrm := own_01 ((x3.toUInt32 >>> ((18 : Int32) &&& 31).toUInt32).toInt32)
      generalize (((x3.toUInt32 >>> ((17 : Int32) &&& 31).toUInt32).toInt32) &&& (1 : Int32)) = ev at hev ⊢
      generalize (((x3.toUInt32 >>> ((18 : Int32) &&& 31).toUInt32).toInt32) &&& (1 : Int32)) = rm at hrm ⊢
      rcases hrm with rfl | rfl
      · -- room 0
        rcases hev with rfl | rfl
        · -- event 0
          show Go E _ (Fm E T3122 172 #[.val (.int x0), .val (.int x1), .val (.int x2), .val (.int x3), .val (.int (x3 &&& (15 : Int32))), .val (.int (((x3.toUInt32 >>> ((4 : Int32) &&& 31).toUInt32).toInt32) &&& (15 : Int32))), .val (.int (((x3.toUInt32 >>> ((8 : Int32) &&& 31).toUInt32).toInt32) &&& (15 : Int32))), .val (.int (((x3.toUInt32 >>> ((12 : Int32) &&& 31).toUInt32).toInt32) &&& (15 : Int32))), .val (.int (0 : Int32)), .val (.int (0 : Int32)), .val (.int (0 : Int32)), .val (.ref b2369), .val (.ref b2623), .val (.ref b2939), .val (.ref b3051), .unset, .unset, .unset, .unset, .unset] [])
          refine go_aload (pc' := 174) W3122 d0_172 rfl rfl rfl ?_
          refine go_iload (pc' := 176) W3122 d0_174 rfl rfl ?_
          refine go_iloadN (pc' := 177) W3122 d0_176 rfl rfl ?_
          refine go_iload (pc' := 179) W3122 d0_177 rfl rfl ?_
          refine go_callV (a := b3051) (kc := K34) (argsL := [(.int (0 : Int32)), (.int x2), (.int (0 : Int32))]) (rest := []) (pc' := 182) W3122 (w225 hw) (w226 hw) (nf_sel W3122 (w228 hw)) (w228 hw) (w227 hw) (w123 hw) (w229 hw) f3205 (rmSu_S00 E.l Z a0 hw b3051  x2 ta3122 tb3122 b2395 b2414 x2414 xo b2702 x0 (own_u (x3 &&& (15 : Int32))) (own_p (x3 &&& (15 : Int32))) (own_qm (x3 &&& (15 : Int32))) x2702 (own_u (((x3.toUInt32 >>> ((8 : Int32) &&& 31).toUInt32).toInt32) &&& (15 : Int32))) (own_p (((x3.toUInt32 >>> ((8 : Int32) &&& 31).toUInt32).toInt32) &&& (15 : Int32))) (own_qm (((x3.toUInt32 >>> ((8 : Int32) &&& 31).toUInt32).toInt32) &&& (15 : Int32))) h3122 n0 z3211 f3205 g3122_1 g3122_2 etp3122 kp3122_0 f3174 f3178 f3179 ob3176 (Sta.kept Sa k3210) (Sta.kept Sx k3210) (fun q => Nat.ne_of_lt (Nat.lt_of_lt_of_le Xo.lt old2401) q.symm) (fun q => Nat.ne_of_lt (Nat.lt_of_lt_of_le Xo.lt old2717) q.symm) etq3122 kq3122_0 ob3192) (by decide) pd24 rfl rfl rfl (nb rfl) (nb rfl) (nb rfl) (nb rfl) d0_179 rfl ?_
          rintro _ T3222 h3222 rfl W3222
          show Go E _ (Fm E T3222 182 #[.val (.int x0), .val (.int x1), .val (.int x2), .val (.int x3), .val (.int (x3 &&& (15 : Int32))), .val (.int (((x3.toUInt32 >>> ((4 : Int32) &&& 31).toUInt32).toInt32) &&& (15 : Int32))), .val (.int (((x3.toUInt32 >>> ((8 : Int32) &&& 31).toUInt32).toInt32) &&& (15 : Int32))), .val (.int (((x3.toUInt32 >>> ((12 : Int32) &&& 31).toUInt32).toInt32) &&& (15 : Int32))), .val (.int (0 : Int32)), .val (.int (0 : Int32)), .val (.int (0 : Int32)), .val (.ref b2369), .val (.ref b2623), .val (.ref b2939), .val (.ref b3051), .unset, .unset, .unset, .unset, .unset] [(.int (own_res x0 x2 (own_p (((x3.toUInt32 >>> ((8 : Int32) &&& 31).toUInt32).toInt32) &&& (15 : Int32))) (own_qm (((x3.toUInt32 >>> ((8 : Int32) &&& 31).toUInt32).toInt32) &&& (15 : Int32))) (own_p (x3 &&& (15 : Int32))) (own_qm (x3 &&& (15 : Int32)))))])
          refine go_istore (pc' := 184) (l' := #[.val (.int x0), .val (.int x1), .val (.int x2), .val (.int x3), .val (.int (x3 &&& (15 : Int32))), .val (.int (((x3.toUInt32 >>> ((4 : Int32) &&& 31).toUInt32).toInt32) &&& (15 : Int32))), .val (.int (((x3.toUInt32 >>> ((8 : Int32) &&& 31).toUInt32).toInt32) &&& (15 : Int32))), .val (.int (((x3.toUInt32 >>> ((12 : Int32) &&& 31).toUInt32).toInt32) &&& (15 : Int32))), .val (.int (0 : Int32)), .val (.int (0 : Int32)), .val (.int (0 : Int32)), .val (.ref b2369), .val (.ref b2623), .val (.ref b2939), .val (.ref b3051), .val (.int (own_res x0 x2 (own_p (((x3.toUInt32 >>> ((8 : Int32) &&& 31).toUInt32).toInt32) &&& (15 : Int32))) (own_qm (((x3.toUInt32 >>> ((8 : Int32) &&& 31).toUInt32).toInt32) &&& (15 : Int32))) (own_p (x3 &&& (15 : Int32))) (own_qm (x3 &&& (15 : Int32))))), .unset, .unset, .unset, .unset]) W3222 d0_182 rfl rfl ?_
          refine go_iload (pc' := 186) W3222 d0_184 rfl rfl ?_
          refine go_if_ne (pt := 193) (pf := 189) W3222 d0_186 (by decide) rfl rfl (fun c186_3223 => ?_) (fun c186_3223 => ?_)
          · exact absurd c186_3223 (by decide)
          · -- pc 186 not taken
            refine go_iloadN (pc' := 190) W3222 d0_189 rfl rfl ?_
            refine go_goto (pc' := 194) W3222 d0_190 (by decide) rfl ?_
            refine go_istore (pc' := 196) (l' := #[.val (.int x0), .val (.int x1), .val (.int x2), .val (.int x3), .val (.int (x3 &&& (15 : Int32))), .val (.int (((x3.toUInt32 >>> ((4 : Int32) &&& 31).toUInt32).toInt32) &&& (15 : Int32))), .val (.int (((x3.toUInt32 >>> ((8 : Int32) &&& 31).toUInt32).toInt32) &&& (15 : Int32))), .val (.int (((x3.toUInt32 >>> ((12 : Int32) &&& 31).toUInt32).toInt32) &&& (15 : Int32))), .val (.int (0 : Int32)), .val (.int (0 : Int32)), .val (.int (0 : Int32)), .val (.ref b2369), .val (.ref b2623), .val (.ref b2939), .val (.ref b3051), .val (.int (own_res x0 x2 (own_p (((x3.toUInt32 >>> ((8 : Int32) &&& 31).toUInt32).toInt32) &&& (15 : Int32))) (own_qm (((x3.toUInt32 >>> ((8 : Int32) &&& 31).toUInt32).toInt32) &&& (15 : Int32))) (own_p (x3 &&& (15 : Int32))) (own_qm (x3 &&& (15 : Int32))))), .val (.int x0), .unset, .unset, .unset]) W3222 d0_194 rfl rfl ?_
            refine go_iload (pc' := 198) W3222 d0_196 rfl rfl ?_
            refine go_if_ne (pt := 206) (pf := 201) W3222 d0_198 (by decide) rfl rfl (fun c198_3224 => ?_) (fun c198_3224 => ?_)
            · exact absurd c198_3224 (by decide)
            · -- pc 198 not taken
              refine go_iload (pc' := 203) W3222 d0_201 rfl rfl ?_
              refine go_goto (pc' := 208) W3222 d0_203 (by decide) rfl ?_
              refine go_istore (pc' := 210) (l' := #[.val (.int x0), .val (.int x1), .val (.int x2), .val (.int x3), .val (.int (x3 &&& (15 : Int32))), .val (.int (((x3.toUInt32 >>> ((4 : Int32) &&& 31).toUInt32).toInt32) &&& (15 : Int32))), .val (.int (((x3.toUInt32 >>> ((8 : Int32) &&& 31).toUInt32).toInt32) &&& (15 : Int32))), .val (.int (((x3.toUInt32 >>> ((12 : Int32) &&& 31).toUInt32).toInt32) &&& (15 : Int32))), .val (.int (0 : Int32)), .val (.int (0 : Int32)), .val (.int (0 : Int32)), .val (.ref b2369), .val (.ref b2623), .val (.ref b2939), .val (.ref b3051), .val (.int (own_res x0 x2 (own_p (((x3.toUInt32 >>> ((8 : Int32) &&& 31).toUInt32).toInt32) &&& (15 : Int32))) (own_qm (((x3.toUInt32 >>> ((8 : Int32) &&& 31).toUInt32).toInt32) &&& (15 : Int32))) (own_p (x3 &&& (15 : Int32))) (own_qm (x3 &&& (15 : Int32))))), .val (.int x0), .val (.int (x3 &&& (15 : Int32))), .unset, .unset]) W3222 d0_208 rfl rfl ?_
              refine go_iload (pc' := 212) W3222 d0_210 rfl rfl ?_
              refine go_if_eq (pt := 219) (pf := 215) W3222 d0_212 (by decide) rfl rfl (fun c212_3225 => ?_) (fun c212_3225 => ?_)
              · -- pc 212 taken
                refine go_iload (pc' := 221) W3222 d0_219 rfl rfl ?_
                refine go_if_ne (pt := 229) (pf := 224) W3222 d0_221 (by decide) rfl rfl (fun c221_3226 => ?_) (fun c221_3226 => ?_)
                · exact absurd c221_3226 (by decide)
                · -- pc 221 not taken
                  refine go_iload (pc' := 226) W3222 d0_224 rfl rfl ?_
                  refine go_goto (pc' := 231) W3222 d0_226 (by decide) rfl ?_
                  refine go_istore (pc' := 233) (l' := #[.val (.int x0), .val (.int x1), .val (.int x2), .val (.int x3), .val (.int (x3 &&& (15 : Int32))), .val (.int (((x3.toUInt32 >>> ((4 : Int32) &&& 31).toUInt32).toInt32) &&& (15 : Int32))), .val (.int (((x3.toUInt32 >>> ((8 : Int32) &&& 31).toUInt32).toInt32) &&& (15 : Int32))), .val (.int (((x3.toUInt32 >>> ((12 : Int32) &&& 31).toUInt32).toInt32) &&& (15 : Int32))), .val (.int (0 : Int32)), .val (.int (0 : Int32)), .val (.int (0 : Int32)), .val (.ref b2369), .val (.ref b2623), .val (.ref b2939), .val (.ref b3051), .val (.int (own_res x0 x2 (own_p (((x3.toUInt32 >>> ((8 : Int32) &&& 31).toUInt32).toInt32) &&& (15 : Int32))) (own_qm (((x3.toUInt32 >>> ((8 : Int32) &&& 31).toUInt32).toInt32) &&& (15 : Int32))) (own_p (x3 &&& (15 : Int32))) (own_qm (x3 &&& (15 : Int32))))), .val (.int x0), .val (.int (x3 &&& (15 : Int32))), .val (.int (((x3.toUInt32 >>> ((8 : Int32) &&& 31).toUInt32).toInt32) &&& (15 : Int32))), .unset]) W3222 d0_231 rfl rfl ?_
                  refine go_iload (pc' := 235) W3222 d0_233 rfl rfl ?_
                  refine go_iloadN (pc' := 236) W3222 d0_235 rfl rfl ?_
                  refine go_icmp_lt (pt := 253) (pf := 239) W3222 d0_236 (by decide) rfl rfl (fun c236_3227 => ?_) (fun c236_3227 => ?_)
                  · -- pc 236 taken
                    refine go_iconst (pc' := 254) (z := 0) W3222 d0_253 rfl rfl ?_
                    refine go_istore (pc' := 256) (l' := #[.val (.int x0), .val (.int x1), .val (.int x2), .val (.int x3), .val (.int (x3 &&& (15 : Int32))), .val (.int (((x3.toUInt32 >>> ((4 : Int32) &&& 31).toUInt32).toInt32) &&& (15 : Int32))), .val (.int (((x3.toUInt32 >>> ((8 : Int32) &&& 31).toUInt32).toInt32) &&& (15 : Int32))), .val (.int (((x3.toUInt32 >>> ((12 : Int32) &&& 31).toUInt32).toInt32) &&& (15 : Int32))), .val (.int (0 : Int32)), .val (.int (0 : Int32)), .val (.int (0 : Int32)), .val (.ref b2369), .val (.ref b2623), .val (.ref b2939), .val (.ref b3051), .val (.int (own_res x0 x2 (own_p (((x3.toUInt32 >>> ((8 : Int32) &&& 31).toUInt32).toInt32) &&& (15 : Int32))) (own_qm (((x3.toUInt32 >>> ((8 : Int32) &&& 31).toUInt32).toInt32) &&& (15 : Int32))) (own_p (x3 &&& (15 : Int32))) (own_qm (x3 &&& (15 : Int32))))), .val (.int x0), .val (.int (x3 &&& (15 : Int32))), .val (.int (((x3.toUInt32 >>> ((8 : Int32) &&& 31).toUInt32).toInt32) &&& (15 : Int32))), .val (.int (0 : Int32))]) W3222 d0_254 rfl rfl ?_
                    refine go_iload (pc' := 258) W3222 d0_256 rfl rfl ?_
                    refine go_iload (pc' := 260) W3222 d0_258 rfl rfl ?_
                    refine go_icmp_ne (pt := 267) (pf := 263) W3222 d0_260 (by decide) rfl rfl (fun c260_3228 => ?_) (fun c260_3228 => ?_)
                    · exact absurd (own_r1 _ _ _ _ c236_3227).symm c260_3228
                    · -- pc 260 not taken
                      refine go_iconst (pc' := 264) (z := 1) W3222 d0_263 rfl rfl ?_
                      refine go_goto (pc' := 268) W3222 d0_264 (by decide) rfl ?_
                      exact go_retI W3222 (t := .boolean) rfl (by simp) rfl d0_268 (nb rfl) (nb rfl) (rfl)
                  · -- pc 236 not taken
                    refine go_iload (pc' := 241) W3222 d0_239 rfl rfl ?_
                    refine go_iload (pc' := 243) W3222 d0_241 rfl rfl ?_
                    refine go_iconst (pc' := 244) (z := -1) W3222 d0_243 rfl rfl ?_
                    refine go_ixor (pc' := 245) W3222 d0_244 rfl ?_
                    refine go_iand (pc' := 246) W3222 d0_245 rfl ?_
                    refine go_if_ne (pt := 253) (pf := 249) W3222 d0_246 (by decide) rfl rfl (fun c246_3229 => ?_) (fun c246_3229 => ?_)
                    · -- pc 246 taken
                      refine go_iconst (pc' := 254) (z := 0) W3222 d0_253 rfl rfl ?_
                      refine go_istore (pc' := 256) (l' := #[.val (.int x0), .val (.int x1), .val (.int x2), .val (.int x3), .val (.int (x3 &&& (15 : Int32))), .val (.int (((x3.toUInt32 >>> ((4 : Int32) &&& 31).toUInt32).toInt32) &&& (15 : Int32))), .val (.int (((x3.toUInt32 >>> ((8 : Int32) &&& 31).toUInt32).toInt32) &&& (15 : Int32))), .val (.int (((x3.toUInt32 >>> ((12 : Int32) &&& 31).toUInt32).toInt32) &&& (15 : Int32))), .val (.int (0 : Int32)), .val (.int (0 : Int32)), .val (.int (0 : Int32)), .val (.ref b2369), .val (.ref b2623), .val (.ref b2939), .val (.ref b3051), .val (.int (own_res x0 x2 (own_p (((x3.toUInt32 >>> ((8 : Int32) &&& 31).toUInt32).toInt32) &&& (15 : Int32))) (own_qm (((x3.toUInt32 >>> ((8 : Int32) &&& 31).toUInt32).toInt32) &&& (15 : Int32))) (own_p (x3 &&& (15 : Int32))) (own_qm (x3 &&& (15 : Int32))))), .val (.int x0), .val (.int (x3 &&& (15 : Int32))), .val (.int (((x3.toUInt32 >>> ((8 : Int32) &&& 31).toUInt32).toInt32) &&& (15 : Int32))), .val (.int (0 : Int32))]) W3222 d0_254 rfl rfl ?_
                      refine go_iload (pc' := 258) W3222 d0_256 rfl rfl ?_
                      refine go_iload (pc' := 260) W3222 d0_258 rfl rfl ?_
                      refine go_icmp_ne (pt := 267) (pf := 263) W3222 d0_260 (by decide) rfl rfl (fun c260_3230 => ?_) (fun c260_3230 => ?_)
                      · exact absurd (own_rB c236_3227 (own_fin _ _) c246_3229) c260_3230
                      · -- pc 260 not taken
                        refine go_iconst (pc' := 264) (z := 1) W3222 d0_263 rfl rfl ?_
                        refine go_goto (pc' := 268) W3222 d0_264 (by decide) rfl ?_
                        exact go_retI W3222 (t := .boolean) rfl (by simp) rfl d0_268 (nb rfl) (nb rfl) (rfl)
                    · -- pc 246 not taken
                      refine go_iconst (pc' := 250) (z := 1) W3222 d0_249 rfl rfl ?_
                      refine go_goto (pc' := 254) W3222 d0_250 (by decide) rfl ?_
                      refine go_istore (pc' := 256) (l' := #[.val (.int x0), .val (.int x1), .val (.int x2), .val (.int x3), .val (.int (x3 &&& (15 : Int32))), .val (.int (((x3.toUInt32 >>> ((4 : Int32) &&& 31).toUInt32).toInt32) &&& (15 : Int32))), .val (.int (((x3.toUInt32 >>> ((8 : Int32) &&& 31).toUInt32).toInt32) &&& (15 : Int32))), .val (.int (((x3.toUInt32 >>> ((12 : Int32) &&& 31).toUInt32).toInt32) &&& (15 : Int32))), .val (.int (0 : Int32)), .val (.int (0 : Int32)), .val (.int (0 : Int32)), .val (.ref b2369), .val (.ref b2623), .val (.ref b2939), .val (.ref b3051), .val (.int (own_res x0 x2 (own_p (((x3.toUInt32 >>> ((8 : Int32) &&& 31).toUInt32).toInt32) &&& (15 : Int32))) (own_qm (((x3.toUInt32 >>> ((8 : Int32) &&& 31).toUInt32).toInt32) &&& (15 : Int32))) (own_p (x3 &&& (15 : Int32))) (own_qm (x3 &&& (15 : Int32))))), .val (.int x0), .val (.int (x3 &&& (15 : Int32))), .val (.int (((x3.toUInt32 >>> ((8 : Int32) &&& 31).toUInt32).toInt32) &&& (15 : Int32))), .val (.int (1 : Int32))]) W3222 d0_254 rfl rfl ?_
                      refine go_iload (pc' := 258) W3222 d0_256 rfl rfl ?_
                      refine go_iload (pc' := 260) W3222 d0_258 rfl rfl ?_
                      refine go_icmp_ne (pt := 267) (pf := 263) W3222 d0_260 (by decide) rfl rfl (fun c260_3231 => ?_) (fun c260_3231 => ?_)
                      · exact absurd (own_rA c236_3227 (own_fin _ _) c246_3229) c260_3231
                      · -- pc 260 not taken
                        refine go_iconst (pc' := 264) (z := 1) W3222 d0_263 rfl rfl ?_
                        refine go_goto (pc' := 268) W3222 d0_264 (by decide) rfl ?_
                        exact go_retI W3222 (t := .boolean) rfl (by simp) rfl d0_268 (nb rfl) (nb rfl) (rfl)
              · exact absurd c212_3225 (by decide)
        · -- event 1
          show Go E _ (Fm E T3122 172 #[.val (.int x0), .val (.int x1), .val (.int x2), .val (.int x3), .val (.int (x3 &&& (15 : Int32))), .val (.int (((x3.toUInt32 >>> ((4 : Int32) &&& 31).toUInt32).toInt32) &&& (15 : Int32))), .val (.int (((x3.toUInt32 >>> ((8 : Int32) &&& 31).toUInt32).toInt32) &&& (15 : Int32))), .val (.int (((x3.toUInt32 >>> ((12 : Int32) &&& 31).toUInt32).toInt32) &&& (15 : Int32))), .val (.int (0 : Int32)), .val (.int (1 : Int32)), .val (.int (0 : Int32)), .val (.ref b2369), .val (.ref b2623), .val (.ref b2939), .val (.ref b3051), .unset, .unset, .unset, .unset, .unset] [])
          refine go_aload (pc' := 174) W3122 d0_172 rfl rfl rfl ?_
          refine go_iload (pc' := 176) W3122 d0_174 rfl rfl ?_
          refine go_iloadN (pc' := 177) W3122 d0_176 rfl rfl ?_
          refine go_iload (pc' := 179) W3122 d0_177 rfl rfl ?_
          refine go_callV (a := b3051) (kc := K34) (argsL := [(.int (1 : Int32)), (.int x2), (.int (0 : Int32))]) (rest := []) (pc' := 182) W3122 (w225 hw) (w226 hw) (nf_sel W3122 (w228 hw)) (w228 hw) (w227 hw) (w123 hw) (w229 hw) f3205 (rmSu_S10 E.l Z a0 hw b3051  x2 ta3122 tb3122 b2395 b2414 x2414 xo b2820 x0 (own_u (x3 &&& (15 : Int32))) (own_p (x3 &&& (15 : Int32))) (own_qm (x3 &&& (15 : Int32))) x2820 (own_u (((x3.toUInt32 >>> ((12 : Int32) &&& 31).toUInt32).toInt32) &&& (15 : Int32))) (own_p (((x3.toUInt32 >>> ((12 : Int32) &&& 31).toUInt32).toInt32) &&& (15 : Int32))) (own_qm (((x3.toUInt32 >>> ((12 : Int32) &&& 31).toUInt32).toInt32) &&& (15 : Int32))) h3122 n0 z3211 f3205 g3122_1 g3122_2 etp3122 kp3122_0 f3174 f3178 f3179 ob3176 (Sta.kept Sa k3210) (Sta.kept Sx k3210) (fun q => Nat.ne_of_lt (Nat.lt_of_lt_of_le Xo.lt old2401) q.symm) (fun q => Nat.ne_of_lt (Nat.lt_of_lt_of_le Xo.lt old2839) q.symm) etq3122 kq3122_1 ob3196) (by decide) pd24 rfl rfl rfl (nb rfl) (nb rfl) (nb rfl) (nb rfl) d0_179 rfl ?_
          rintro _ T3232 h3232 rfl W3232
          show Go E _ (Fm E T3232 182 #[.val (.int x0), .val (.int x1), .val (.int x2), .val (.int x3), .val (.int (x3 &&& (15 : Int32))), .val (.int (((x3.toUInt32 >>> ((4 : Int32) &&& 31).toUInt32).toInt32) &&& (15 : Int32))), .val (.int (((x3.toUInt32 >>> ((8 : Int32) &&& 31).toUInt32).toInt32) &&& (15 : Int32))), .val (.int (((x3.toUInt32 >>> ((12 : Int32) &&& 31).toUInt32).toInt32) &&& (15 : Int32))), .val (.int (0 : Int32)), .val (.int (1 : Int32)), .val (.int (0 : Int32)), .val (.ref b2369), .val (.ref b2623), .val (.ref b2939), .val (.ref b3051), .unset, .unset, .unset, .unset, .unset] [(.int (own_res x0 x2 (own_p (((x3.toUInt32 >>> ((12 : Int32) &&& 31).toUInt32).toInt32) &&& (15 : Int32))) (own_qm (((x3.toUInt32 >>> ((12 : Int32) &&& 31).toUInt32).toInt32) &&& (15 : Int32))) (own_p (x3 &&& (15 : Int32))) (own_qm (x3 &&& (15 : Int32)))))])
          refine go_istore (pc' := 184) (l' := #[.val (.int x0), .val (.int x1), .val (.int x2), .val (.int x3), .val (.int (x3 &&& (15 : Int32))), .val (.int (((x3.toUInt32 >>> ((4 : Int32) &&& 31).toUInt32).toInt32) &&& (15 : Int32))), .val (.int (((x3.toUInt32 >>> ((8 : Int32) &&& 31).toUInt32).toInt32) &&& (15 : Int32))), .val (.int (((x3.toUInt32 >>> ((12 : Int32) &&& 31).toUInt32).toInt32) &&& (15 : Int32))), .val (.int (0 : Int32)), .val (.int (1 : Int32)), .val (.int (0 : Int32)), .val (.ref b2369), .val (.ref b2623), .val (.ref b2939), .val (.ref b3051), .val (.int (own_res x0 x2 (own_p (((x3.toUInt32 >>> ((12 : Int32) &&& 31).toUInt32).toInt32) &&& (15 : Int32))) (own_qm (((x3.toUInt32 >>> ((12 : Int32) &&& 31).toUInt32).toInt32) &&& (15 : Int32))) (own_p (x3 &&& (15 : Int32))) (own_qm (x3 &&& (15 : Int32))))), .unset, .unset, .unset, .unset]) W3232 d0_182 rfl rfl ?_
          refine go_iload (pc' := 186) W3232 d0_184 rfl rfl ?_
          refine go_if_ne (pt := 193) (pf := 189) W3232 d0_186 (by decide) rfl rfl (fun c186_3233 => ?_) (fun c186_3233 => ?_)
          · exact absurd c186_3233 (by decide)
          · -- pc 186 not taken
            refine go_iloadN (pc' := 190) W3232 d0_189 rfl rfl ?_
            refine go_goto (pc' := 194) W3232 d0_190 (by decide) rfl ?_
            refine go_istore (pc' := 196) (l' := #[.val (.int x0), .val (.int x1), .val (.int x2), .val (.int x3), .val (.int (x3 &&& (15 : Int32))), .val (.int (((x3.toUInt32 >>> ((4 : Int32) &&& 31).toUInt32).toInt32) &&& (15 : Int32))), .val (.int (((x3.toUInt32 >>> ((8 : Int32) &&& 31).toUInt32).toInt32) &&& (15 : Int32))), .val (.int (((x3.toUInt32 >>> ((12 : Int32) &&& 31).toUInt32).toInt32) &&& (15 : Int32))), .val (.int (0 : Int32)), .val (.int (1 : Int32)), .val (.int (0 : Int32)), .val (.ref b2369), .val (.ref b2623), .val (.ref b2939), .val (.ref b3051), .val (.int (own_res x0 x2 (own_p (((x3.toUInt32 >>> ((12 : Int32) &&& 31).toUInt32).toInt32) &&& (15 : Int32))) (own_qm (((x3.toUInt32 >>> ((12 : Int32) &&& 31).toUInt32).toInt32) &&& (15 : Int32))) (own_p (x3 &&& (15 : Int32))) (own_qm (x3 &&& (15 : Int32))))), .val (.int x0), .unset, .unset, .unset]) W3232 d0_194 rfl rfl ?_
            refine go_iload (pc' := 198) W3232 d0_196 rfl rfl ?_
            refine go_if_ne (pt := 206) (pf := 201) W3232 d0_198 (by decide) rfl rfl (fun c198_3234 => ?_) (fun c198_3234 => ?_)
            · exact absurd c198_3234 (by decide)
            · -- pc 198 not taken
              refine go_iload (pc' := 203) W3232 d0_201 rfl rfl ?_
              refine go_goto (pc' := 208) W3232 d0_203 (by decide) rfl ?_
              refine go_istore (pc' := 210) (l' := #[.val (.int x0), .val (.int x1), .val (.int x2), .val (.int x3), .val (.int (x3 &&& (15 : Int32))), .val (.int (((x3.toUInt32 >>> ((4 : Int32) &&& 31).toUInt32).toInt32) &&& (15 : Int32))), .val (.int (((x3.toUInt32 >>> ((8 : Int32) &&& 31).toUInt32).toInt32) &&& (15 : Int32))), .val (.int (((x3.toUInt32 >>> ((12 : Int32) &&& 31).toUInt32).toInt32) &&& (15 : Int32))), .val (.int (0 : Int32)), .val (.int (1 : Int32)), .val (.int (0 : Int32)), .val (.ref b2369), .val (.ref b2623), .val (.ref b2939), .val (.ref b3051), .val (.int (own_res x0 x2 (own_p (((x3.toUInt32 >>> ((12 : Int32) &&& 31).toUInt32).toInt32) &&& (15 : Int32))) (own_qm (((x3.toUInt32 >>> ((12 : Int32) &&& 31).toUInt32).toInt32) &&& (15 : Int32))) (own_p (x3 &&& (15 : Int32))) (own_qm (x3 &&& (15 : Int32))))), .val (.int x0), .val (.int (x3 &&& (15 : Int32))), .unset, .unset]) W3232 d0_208 rfl rfl ?_
              refine go_iload (pc' := 212) W3232 d0_210 rfl rfl ?_
              refine go_if_eq (pt := 219) (pf := 215) W3232 d0_212 (by decide) rfl rfl (fun c212_3235 => ?_) (fun c212_3235 => ?_)
              · -- pc 212 taken
                refine go_iload (pc' := 221) W3232 d0_219 rfl rfl ?_
                refine go_if_ne (pt := 229) (pf := 224) W3232 d0_221 (by decide) rfl rfl (fun c221_3236 => ?_) (fun c221_3236 => ?_)
                · -- pc 221 taken
                  refine go_iload (pc' := 231) W3232 d0_229 rfl rfl ?_
                  refine go_istore (pc' := 233) (l' := #[.val (.int x0), .val (.int x1), .val (.int x2), .val (.int x3), .val (.int (x3 &&& (15 : Int32))), .val (.int (((x3.toUInt32 >>> ((4 : Int32) &&& 31).toUInt32).toInt32) &&& (15 : Int32))), .val (.int (((x3.toUInt32 >>> ((8 : Int32) &&& 31).toUInt32).toInt32) &&& (15 : Int32))), .val (.int (((x3.toUInt32 >>> ((12 : Int32) &&& 31).toUInt32).toInt32) &&& (15 : Int32))), .val (.int (0 : Int32)), .val (.int (1 : Int32)), .val (.int (0 : Int32)), .val (.ref b2369), .val (.ref b2623), .val (.ref b2939), .val (.ref b3051), .val (.int (own_res x0 x2 (own_p (((x3.toUInt32 >>> ((12 : Int32) &&& 31).toUInt32).toInt32) &&& (15 : Int32))) (own_qm (((x3.toUInt32 >>> ((12 : Int32) &&& 31).toUInt32).toInt32) &&& (15 : Int32))) (own_p (x3 &&& (15 : Int32))) (own_qm (x3 &&& (15 : Int32))))), .val (.int x0), .val (.int (x3 &&& (15 : Int32))), .val (.int (((x3.toUInt32 >>> ((12 : Int32) &&& 31).toUInt32).toInt32) &&& (15 : Int32))), .unset]) W3232 d0_231 rfl rfl ?_
                  refine go_iload (pc' := 235) W3232 d0_233 rfl rfl ?_
                  refine go_iloadN (pc' := 236) W3232 d0_235 rfl rfl ?_
                  refine go_icmp_lt (pt := 253) (pf := 239) W3232 d0_236 (by decide) rfl rfl (fun c236_3237 => ?_) (fun c236_3237 => ?_)
                  · -- pc 236 taken
                    refine go_iconst (pc' := 254) (z := 0) W3232 d0_253 rfl rfl ?_
                    refine go_istore (pc' := 256) (l' := #[.val (.int x0), .val (.int x1), .val (.int x2), .val (.int x3), .val (.int (x3 &&& (15 : Int32))), .val (.int (((x3.toUInt32 >>> ((4 : Int32) &&& 31).toUInt32).toInt32) &&& (15 : Int32))), .val (.int (((x3.toUInt32 >>> ((8 : Int32) &&& 31).toUInt32).toInt32) &&& (15 : Int32))), .val (.int (((x3.toUInt32 >>> ((12 : Int32) &&& 31).toUInt32).toInt32) &&& (15 : Int32))), .val (.int (0 : Int32)), .val (.int (1 : Int32)), .val (.int (0 : Int32)), .val (.ref b2369), .val (.ref b2623), .val (.ref b2939), .val (.ref b3051), .val (.int (own_res x0 x2 (own_p (((x3.toUInt32 >>> ((12 : Int32) &&& 31).toUInt32).toInt32) &&& (15 : Int32))) (own_qm (((x3.toUInt32 >>> ((12 : Int32) &&& 31).toUInt32).toInt32) &&& (15 : Int32))) (own_p (x3 &&& (15 : Int32))) (own_qm (x3 &&& (15 : Int32))))), .val (.int x0), .val (.int (x3 &&& (15 : Int32))), .val (.int (((x3.toUInt32 >>> ((12 : Int32) &&& 31).toUInt32).toInt32) &&& (15 : Int32))), .val (.int (0 : Int32))]) W3232 d0_254 rfl rfl ?_
                    refine go_iload (pc' := 258) W3232 d0_256 rfl rfl ?_
                    refine go_iload (pc' := 260) W3232 d0_258 rfl rfl ?_
                    refine go_icmp_ne (pt := 267) (pf := 263) W3232 d0_260 (by decide) rfl rfl (fun c260_3238 => ?_) (fun c260_3238 => ?_)
                    · exact absurd (own_r1 _ _ _ _ c236_3237).symm c260_3238
                    · -- pc 260 not taken
                      refine go_iconst (pc' := 264) (z := 1) W3232 d0_263 rfl rfl ?_
                      refine go_goto (pc' := 268) W3232 d0_264 (by decide) rfl ?_
                      exact go_retI W3232 (t := .boolean) rfl (by simp) rfl d0_268 (nb rfl) (nb rfl) (rfl)
                  · -- pc 236 not taken
                    refine go_iload (pc' := 241) W3232 d0_239 rfl rfl ?_
                    refine go_iload (pc' := 243) W3232 d0_241 rfl rfl ?_
                    refine go_iconst (pc' := 244) (z := -1) W3232 d0_243 rfl rfl ?_
                    refine go_ixor (pc' := 245) W3232 d0_244 rfl ?_
                    refine go_iand (pc' := 246) W3232 d0_245 rfl ?_
                    refine go_if_ne (pt := 253) (pf := 249) W3232 d0_246 (by decide) rfl rfl (fun c246_3239 => ?_) (fun c246_3239 => ?_)
                    · -- pc 246 taken
                      refine go_iconst (pc' := 254) (z := 0) W3232 d0_253 rfl rfl ?_
                      refine go_istore (pc' := 256) (l' := #[.val (.int x0), .val (.int x1), .val (.int x2), .val (.int x3), .val (.int (x3 &&& (15 : Int32))), .val (.int (((x3.toUInt32 >>> ((4 : Int32) &&& 31).toUInt32).toInt32) &&& (15 : Int32))), .val (.int (((x3.toUInt32 >>> ((8 : Int32) &&& 31).toUInt32).toInt32) &&& (15 : Int32))), .val (.int (((x3.toUInt32 >>> ((12 : Int32) &&& 31).toUInt32).toInt32) &&& (15 : Int32))), .val (.int (0 : Int32)), .val (.int (1 : Int32)), .val (.int (0 : Int32)), .val (.ref b2369), .val (.ref b2623), .val (.ref b2939), .val (.ref b3051), .val (.int (own_res x0 x2 (own_p (((x3.toUInt32 >>> ((12 : Int32) &&& 31).toUInt32).toInt32) &&& (15 : Int32))) (own_qm (((x3.toUInt32 >>> ((12 : Int32) &&& 31).toUInt32).toInt32) &&& (15 : Int32))) (own_p (x3 &&& (15 : Int32))) (own_qm (x3 &&& (15 : Int32))))), .val (.int x0), .val (.int (x3 &&& (15 : Int32))), .val (.int (((x3.toUInt32 >>> ((12 : Int32) &&& 31).toUInt32).toInt32) &&& (15 : Int32))), .val (.int (0 : Int32))]) W3232 d0_254 rfl rfl ?_
                      refine go_iload (pc' := 258) W3232 d0_256 rfl rfl ?_
                      refine go_iload (pc' := 260) W3232 d0_258 rfl rfl ?_
                      refine go_icmp_ne (pt := 267) (pf := 263) W3232 d0_260 (by decide) rfl rfl (fun c260_3240 => ?_) (fun c260_3240 => ?_)
                      · exact absurd (own_rB c236_3237 (own_fin _ _) c246_3239) c260_3240
                      · -- pc 260 not taken
                        refine go_iconst (pc' := 264) (z := 1) W3232 d0_263 rfl rfl ?_
                        refine go_goto (pc' := 268) W3232 d0_264 (by decide) rfl ?_
                        exact go_retI W3232 (t := .boolean) rfl (by simp) rfl d0_268 (nb rfl) (nb rfl) (rfl)
                    · -- pc 246 not taken
                      refine go_iconst (pc' := 250) (z := 1) W3232 d0_249 rfl rfl ?_
                      refine go_goto (pc' := 254) W3232 d0_250 (by decide) rfl ?_
                      refine go_istore (pc' := 256) (l' := #[.val (.int x0), .val (.int x1), .val (.int x2), .val (.int x3), .val (.int (x3 &&& (15 : Int32))), .val (.int (((x3.toUInt32 >>> ((4 : Int32) &&& 31).toUInt32).toInt32) &&& (15 : Int32))), .val (.int (((x3.toUInt32 >>> ((8 : Int32) &&& 31).toUInt32).toInt32) &&& (15 : Int32))), .val (.int (((x3.toUInt32 >>> ((12 : Int32) &&& 31).toUInt32).toInt32) &&& (15 : Int32))), .val (.int (0 : Int32)), .val (.int (1 : Int32)), .val (.int (0 : Int32)), .val (.ref b2369), .val (.ref b2623), .val (.ref b2939), .val (.ref b3051), .val (.int (own_res x0 x2 (own_p (((x3.toUInt32 >>> ((12 : Int32) &&& 31).toUInt32).toInt32) &&& (15 : Int32))) (own_qm (((x3.toUInt32 >>> ((12 : Int32) &&& 31).toUInt32).toInt32) &&& (15 : Int32))) (own_p (x3 &&& (15 : Int32))) (own_qm (x3 &&& (15 : Int32))))), .val (.int x0), .val (.int (x3 &&& (15 : Int32))), .val (.int (((x3.toUInt32 >>> ((12 : Int32) &&& 31).toUInt32).toInt32) &&& (15 : Int32))), .val (.int (1 : Int32))]) W3232 d0_254 rfl rfl ?_
                      refine go_iload (pc' := 258) W3232 d0_256 rfl rfl ?_
                      refine go_iload (pc' := 260) W3232 d0_258 rfl rfl ?_
                      refine go_icmp_ne (pt := 267) (pf := 263) W3232 d0_260 (by decide) rfl rfl (fun c260_3241 => ?_) (fun c260_3241 => ?_)
                      · exact absurd (own_rA c236_3237 (own_fin _ _) c246_3239) c260_3241
                      · -- pc 260 not taken
                        refine go_iconst (pc' := 264) (z := 1) W3232 d0_263 rfl rfl ?_
                        refine go_goto (pc' := 268) W3232 d0_264 (by decide) rfl ?_
                        exact go_retI W3232 (t := .boolean) rfl (by simp) rfl d0_268 (nb rfl) (nb rfl) (rfl)
                · exact absurd c221_3236 (by decide)
              · exact absurd c212_3235 (by decide)
      · -- room 1
        rcases hev with rfl | rfl
        · -- event 0
          show Go E _ (Fm E T3122 172 #[.val (.int x0), .val (.int x1), .val (.int x2), .val (.int x3), .val (.int (x3 &&& (15 : Int32))), .val (.int (((x3.toUInt32 >>> ((4 : Int32) &&& 31).toUInt32).toInt32) &&& (15 : Int32))), .val (.int (((x3.toUInt32 >>> ((8 : Int32) &&& 31).toUInt32).toInt32) &&& (15 : Int32))), .val (.int (((x3.toUInt32 >>> ((12 : Int32) &&& 31).toUInt32).toInt32) &&& (15 : Int32))), .val (.int (0 : Int32)), .val (.int (0 : Int32)), .val (.int (1 : Int32)), .val (.ref b2369), .val (.ref b2623), .val (.ref b2939), .val (.ref b3051), .unset, .unset, .unset, .unset, .unset] [])
          refine go_aload (pc' := 174) W3122 d0_172 rfl rfl rfl ?_
          refine go_iload (pc' := 176) W3122 d0_174 rfl rfl ?_
          refine go_iloadN (pc' := 177) W3122 d0_176 rfl rfl ?_
          refine go_iload (pc' := 179) W3122 d0_177 rfl rfl ?_
          refine go_callV (a := b3051) (kc := K34) (argsL := [(.int (0 : Int32)), (.int x2), (.int (1 : Int32))]) (rest := []) (pc' := 182) W3122 (w225 hw) (w226 hw) (nf_sel W3122 (w228 hw)) (w228 hw) (w227 hw) (w123 hw) (w229 hw) f3205 (rmSu_S01 E.l Z a0 hw b3051  x2 ta3122 tb3122 b2487 b2520 x2520 xo b2702 x1 (own_u (((x3.toUInt32 >>> ((4 : Int32) &&& 31).toUInt32).toInt32) &&& (15 : Int32))) (own_p (((x3.toUInt32 >>> ((4 : Int32) &&& 31).toUInt32).toInt32) &&& (15 : Int32))) (own_qm (((x3.toUInt32 >>> ((4 : Int32) &&& 31).toUInt32).toInt32) &&& (15 : Int32))) x2702 (own_u (((x3.toUInt32 >>> ((8 : Int32) &&& 31).toUInt32).toInt32) &&& (15 : Int32))) (own_p (((x3.toUInt32 >>> ((8 : Int32) &&& 31).toUInt32).toInt32) &&& (15 : Int32))) (own_qm (((x3.toUInt32 >>> ((8 : Int32) &&& 31).toUInt32).toInt32) &&& (15 : Int32))) h3122 n0 z3211 f3205 g3122_1 g3122_2 etp3122 kp3122_1 f3181 f3185 f3186 ob3183 (Sta.kept Sa k3210) (Sta.kept Sx k3210) (fun q => Nat.ne_of_lt (Nat.lt_of_lt_of_le Xo.lt old2496) q.symm) (fun q => Nat.ne_of_lt (Nat.lt_of_lt_of_le Xo.lt old2717) q.symm) etq3122 kq3122_0 ob3192) (by decide) pd24 rfl rfl rfl (nb rfl) (nb rfl) (nb rfl) (nb rfl) d0_179 rfl ?_
          rintro _ T3242 h3242 rfl W3242
          show Go E _ (Fm E T3242 182 #[.val (.int x0), .val (.int x1), .val (.int x2), .val (.int x3), .val (.int (x3 &&& (15 : Int32))), .val (.int (((x3.toUInt32 >>> ((4 : Int32) &&& 31).toUInt32).toInt32) &&& (15 : Int32))), .val (.int (((x3.toUInt32 >>> ((8 : Int32) &&& 31).toUInt32).toInt32) &&& (15 : Int32))), .val (.int (((x3.toUInt32 >>> ((12 : Int32) &&& 31).toUInt32).toInt32) &&& (15 : Int32))), .val (.int (0 : Int32)), .val (.int (0 : Int32)), .val (.int (1 : Int32)), .val (.ref b2369), .val (.ref b2623), .val (.ref b2939), .val (.ref b3051), .unset, .unset, .unset, .unset, .unset] [(.int (own_res x1 x2 (own_p (((x3.toUInt32 >>> ((8 : Int32) &&& 31).toUInt32).toInt32) &&& (15 : Int32))) (own_qm (((x3.toUInt32 >>> ((8 : Int32) &&& 31).toUInt32).toInt32) &&& (15 : Int32))) (own_p (((x3.toUInt32 >>> ((4 : Int32) &&& 31).toUInt32).toInt32) &&& (15 : Int32))) (own_qm (((x3.toUInt32 >>> ((4 : Int32) &&& 31).toUInt32).toInt32) &&& (15 : Int32)))))])
          refine go_istore (pc' := 184) (l' := #[.val (.int x0), .val (.int x1), .val (.int x2), .val (.int x3), .val (.int (x3 &&& (15 : Int32))), .val (.int (((x3.toUInt32 >>> ((4 : Int32) &&& 31).toUInt32).toInt32) &&& (15 : Int32))), .val (.int (((x3.toUInt32 >>> ((8 : Int32) &&& 31).toUInt32).toInt32) &&& (15 : Int32))), .val (.int (((x3.toUInt32 >>> ((12 : Int32) &&& 31).toUInt32).toInt32) &&& (15 : Int32))), .val (.int (0 : Int32)), .val (.int (0 : Int32)), .val (.int (1 : Int32)), .val (.ref b2369), .val (.ref b2623), .val (.ref b2939), .val (.ref b3051), .val (.int (own_res x1 x2 (own_p (((x3.toUInt32 >>> ((8 : Int32) &&& 31).toUInt32).toInt32) &&& (15 : Int32))) (own_qm (((x3.toUInt32 >>> ((8 : Int32) &&& 31).toUInt32).toInt32) &&& (15 : Int32))) (own_p (((x3.toUInt32 >>> ((4 : Int32) &&& 31).toUInt32).toInt32) &&& (15 : Int32))) (own_qm (((x3.toUInt32 >>> ((4 : Int32) &&& 31).toUInt32).toInt32) &&& (15 : Int32))))), .unset, .unset, .unset, .unset]) W3242 d0_182 rfl rfl ?_
          refine go_iload (pc' := 186) W3242 d0_184 rfl rfl ?_
          refine go_if_ne (pt := 193) (pf := 189) W3242 d0_186 (by decide) rfl rfl (fun c186_3243 => ?_) (fun c186_3243 => ?_)
          · -- pc 186 taken
            refine go_iloadN (pc' := 194) W3242 d0_193 rfl rfl ?_
            refine go_istore (pc' := 196) (l' := #[.val (.int x0), .val (.int x1), .val (.int x2), .val (.int x3), .val (.int (x3 &&& (15 : Int32))), .val (.int (((x3.toUInt32 >>> ((4 : Int32) &&& 31).toUInt32).toInt32) &&& (15 : Int32))), .val (.int (((x3.toUInt32 >>> ((8 : Int32) &&& 31).toUInt32).toInt32) &&& (15 : Int32))), .val (.int (((x3.toUInt32 >>> ((12 : Int32) &&& 31).toUInt32).toInt32) &&& (15 : Int32))), .val (.int (0 : Int32)), .val (.int (0 : Int32)), .val (.int (1 : Int32)), .val (.ref b2369), .val (.ref b2623), .val (.ref b2939), .val (.ref b3051), .val (.int (own_res x1 x2 (own_p (((x3.toUInt32 >>> ((8 : Int32) &&& 31).toUInt32).toInt32) &&& (15 : Int32))) (own_qm (((x3.toUInt32 >>> ((8 : Int32) &&& 31).toUInt32).toInt32) &&& (15 : Int32))) (own_p (((x3.toUInt32 >>> ((4 : Int32) &&& 31).toUInt32).toInt32) &&& (15 : Int32))) (own_qm (((x3.toUInt32 >>> ((4 : Int32) &&& 31).toUInt32).toInt32) &&& (15 : Int32))))), .val (.int x1), .unset, .unset, .unset]) W3242 d0_194 rfl rfl ?_
            refine go_iload (pc' := 198) W3242 d0_196 rfl rfl ?_
            refine go_if_ne (pt := 206) (pf := 201) W3242 d0_198 (by decide) rfl rfl (fun c198_3244 => ?_) (fun c198_3244 => ?_)
            · -- pc 198 taken
              refine go_iload (pc' := 208) W3242 d0_206 rfl rfl ?_
              refine go_istore (pc' := 210) (l' := #[.val (.int x0), .val (.int x1), .val (.int x2), .val (.int x3), .val (.int (x3 &&& (15 : Int32))), .val (.int (((x3.toUInt32 >>> ((4 : Int32) &&& 31).toUInt32).toInt32) &&& (15 : Int32))), .val (.int (((x3.toUInt32 >>> ((8 : Int32) &&& 31).toUInt32).toInt32) &&& (15 : Int32))), .val (.int (((x3.toUInt32 >>> ((12 : Int32) &&& 31).toUInt32).toInt32) &&& (15 : Int32))), .val (.int (0 : Int32)), .val (.int (0 : Int32)), .val (.int (1 : Int32)), .val (.ref b2369), .val (.ref b2623), .val (.ref b2939), .val (.ref b3051), .val (.int (own_res x1 x2 (own_p (((x3.toUInt32 >>> ((8 : Int32) &&& 31).toUInt32).toInt32) &&& (15 : Int32))) (own_qm (((x3.toUInt32 >>> ((8 : Int32) &&& 31).toUInt32).toInt32) &&& (15 : Int32))) (own_p (((x3.toUInt32 >>> ((4 : Int32) &&& 31).toUInt32).toInt32) &&& (15 : Int32))) (own_qm (((x3.toUInt32 >>> ((4 : Int32) &&& 31).toUInt32).toInt32) &&& (15 : Int32))))), .val (.int x1), .val (.int (((x3.toUInt32 >>> ((4 : Int32) &&& 31).toUInt32).toInt32) &&& (15 : Int32))), .unset, .unset]) W3242 d0_208 rfl rfl ?_
              refine go_iload (pc' := 212) W3242 d0_210 rfl rfl ?_
              refine go_if_eq (pt := 219) (pf := 215) W3242 d0_212 (by decide) rfl rfl (fun c212_3245 => ?_) (fun c212_3245 => ?_)
              · -- pc 212 taken
                refine go_iload (pc' := 221) W3242 d0_219 rfl rfl ?_
                refine go_if_ne (pt := 229) (pf := 224) W3242 d0_221 (by decide) rfl rfl (fun c221_3246 => ?_) (fun c221_3246 => ?_)
                · exact absurd c221_3246 (by decide)
                · -- pc 221 not taken
                  refine go_iload (pc' := 226) W3242 d0_224 rfl rfl ?_
                  refine go_goto (pc' := 231) W3242 d0_226 (by decide) rfl ?_
                  refine go_istore (pc' := 233) (l' := #[.val (.int x0), .val (.int x1), .val (.int x2), .val (.int x3), .val (.int (x3 &&& (15 : Int32))), .val (.int (((x3.toUInt32 >>> ((4 : Int32) &&& 31).toUInt32).toInt32) &&& (15 : Int32))), .val (.int (((x3.toUInt32 >>> ((8 : Int32) &&& 31).toUInt32).toInt32) &&& (15 : Int32))), .val (.int (((x3.toUInt32 >>> ((12 : Int32) &&& 31).toUInt32).toInt32) &&& (15 : Int32))), .val (.int (0 : Int32)), .val (.int (0 : Int32)), .val (.int (1 : Int32)), .val (.ref b2369), .val (.ref b2623), .val (.ref b2939), .val (.ref b3051), .val (.int (own_res x1 x2 (own_p (((x3.toUInt32 >>> ((8 : Int32) &&& 31).toUInt32).toInt32) &&& (15 : Int32))) (own_qm (((x3.toUInt32 >>> ((8 : Int32) &&& 31).toUInt32).toInt32) &&& (15 : Int32))) (own_p (((x3.toUInt32 >>> ((4 : Int32) &&& 31).toUInt32).toInt32) &&& (15 : Int32))) (own_qm (((x3.toUInt32 >>> ((4 : Int32) &&& 31).toUInt32).toInt32) &&& (15 : Int32))))), .val (.int x1), .val (.int (((x3.toUInt32 >>> ((4 : Int32) &&& 31).toUInt32).toInt32) &&& (15 : Int32))), .val (.int (((x3.toUInt32 >>> ((8 : Int32) &&& 31).toUInt32).toInt32) &&& (15 : Int32))), .unset]) W3242 d0_231 rfl rfl ?_
                  refine go_iload (pc' := 235) W3242 d0_233 rfl rfl ?_
                  refine go_iloadN (pc' := 236) W3242 d0_235 rfl rfl ?_
                  refine go_icmp_lt (pt := 253) (pf := 239) W3242 d0_236 (by decide) rfl rfl (fun c236_3247 => ?_) (fun c236_3247 => ?_)
                  · -- pc 236 taken
                    refine go_iconst (pc' := 254) (z := 0) W3242 d0_253 rfl rfl ?_
                    refine go_istore (pc' := 256) (l' := #[.val (.int x0), .val (.int x1), .val (.int x2), .val (.int x3), .val (.int (x3 &&& (15 : Int32))), .val (.int (((x3.toUInt32 >>> ((4 : Int32) &&& 31).toUInt32).toInt32) &&& (15 : Int32))), .val (.int (((x3.toUInt32 >>> ((8 : Int32) &&& 31).toUInt32).toInt32) &&& (15 : Int32))), .val (.int (((x3.toUInt32 >>> ((12 : Int32) &&& 31).toUInt32).toInt32) &&& (15 : Int32))), .val (.int (0 : Int32)), .val (.int (0 : Int32)), .val (.int (1 : Int32)), .val (.ref b2369), .val (.ref b2623), .val (.ref b2939), .val (.ref b3051), .val (.int (own_res x1 x2 (own_p (((x3.toUInt32 >>> ((8 : Int32) &&& 31).toUInt32).toInt32) &&& (15 : Int32))) (own_qm (((x3.toUInt32 >>> ((8 : Int32) &&& 31).toUInt32).toInt32) &&& (15 : Int32))) (own_p (((x3.toUInt32 >>> ((4 : Int32) &&& 31).toUInt32).toInt32) &&& (15 : Int32))) (own_qm (((x3.toUInt32 >>> ((4 : Int32) &&& 31).toUInt32).toInt32) &&& (15 : Int32))))), .val (.int x1), .val (.int (((x3.toUInt32 >>> ((4 : Int32) &&& 31).toUInt32).toInt32) &&& (15 : Int32))), .val (.int (((x3.toUInt32 >>> ((8 : Int32) &&& 31).toUInt32).toInt32) &&& (15 : Int32))), .val (.int (0 : Int32))]) W3242 d0_254 rfl rfl ?_
                    refine go_iload (pc' := 258) W3242 d0_256 rfl rfl ?_
                    refine go_iload (pc' := 260) W3242 d0_258 rfl rfl ?_
                    refine go_icmp_ne (pt := 267) (pf := 263) W3242 d0_260 (by decide) rfl rfl (fun c260_3248 => ?_) (fun c260_3248 => ?_)
                    · exact absurd (own_r1 _ _ _ _ c236_3247).symm c260_3248
                    · -- pc 260 not taken
                      refine go_iconst (pc' := 264) (z := 1) W3242 d0_263 rfl rfl ?_
                      refine go_goto (pc' := 268) W3242 d0_264 (by decide) rfl ?_
                      exact go_retI W3242 (t := .boolean) rfl (by simp) rfl d0_268 (nb rfl) (nb rfl) (rfl)
                  · -- pc 236 not taken
                    refine go_iload (pc' := 241) W3242 d0_239 rfl rfl ?_
                    refine go_iload (pc' := 243) W3242 d0_241 rfl rfl ?_
                    refine go_iconst (pc' := 244) (z := -1) W3242 d0_243 rfl rfl ?_
                    refine go_ixor (pc' := 245) W3242 d0_244 rfl ?_
                    refine go_iand (pc' := 246) W3242 d0_245 rfl ?_
                    refine go_if_ne (pt := 253) (pf := 249) W3242 d0_246 (by decide) rfl rfl (fun c246_3249 => ?_) (fun c246_3249 => ?_)
                    · -- pc 246 taken
                      refine go_iconst (pc' := 254) (z := 0) W3242 d0_253 rfl rfl ?_
                      refine go_istore (pc' := 256) (l' := #[.val (.int x0), .val (.int x1), .val (.int x2), .val (.int x3), .val (.int (x3 &&& (15 : Int32))), .val (.int (((x3.toUInt32 >>> ((4 : Int32) &&& 31).toUInt32).toInt32) &&& (15 : Int32))), .val (.int (((x3.toUInt32 >>> ((8 : Int32) &&& 31).toUInt32).toInt32) &&& (15 : Int32))), .val (.int (((x3.toUInt32 >>> ((12 : Int32) &&& 31).toUInt32).toInt32) &&& (15 : Int32))), .val (.int (0 : Int32)), .val (.int (0 : Int32)), .val (.int (1 : Int32)), .val (.ref b2369), .val (.ref b2623), .val (.ref b2939), .val (.ref b3051), .val (.int (own_res x1 x2 (own_p (((x3.toUInt32 >>> ((8 : Int32) &&& 31).toUInt32).toInt32) &&& (15 : Int32))) (own_qm (((x3.toUInt32 >>> ((8 : Int32) &&& 31).toUInt32).toInt32) &&& (15 : Int32))) (own_p (((x3.toUInt32 >>> ((4 : Int32) &&& 31).toUInt32).toInt32) &&& (15 : Int32))) (own_qm (((x3.toUInt32 >>> ((4 : Int32) &&& 31).toUInt32).toInt32) &&& (15 : Int32))))), .val (.int x1), .val (.int (((x3.toUInt32 >>> ((4 : Int32) &&& 31).toUInt32).toInt32) &&& (15 : Int32))), .val (.int (((x3.toUInt32 >>> ((8 : Int32) &&& 31).toUInt32).toInt32) &&& (15 : Int32))), .val (.int (0 : Int32))]) W3242 d0_254 rfl rfl ?_
                      refine go_iload (pc' := 258) W3242 d0_256 rfl rfl ?_
                      refine go_iload (pc' := 260) W3242 d0_258 rfl rfl ?_
                      refine go_icmp_ne (pt := 267) (pf := 263) W3242 d0_260 (by decide) rfl rfl (fun c260_3250 => ?_) (fun c260_3250 => ?_)
                      · exact absurd (own_rB c236_3247 (own_fin _ _) c246_3249) c260_3250
                      · -- pc 260 not taken
                        refine go_iconst (pc' := 264) (z := 1) W3242 d0_263 rfl rfl ?_
                        refine go_goto (pc' := 268) W3242 d0_264 (by decide) rfl ?_
                        exact go_retI W3242 (t := .boolean) rfl (by simp) rfl d0_268 (nb rfl) (nb rfl) (rfl)
                    · -- pc 246 not taken
                      refine go_iconst (pc' := 250) (z := 1) W3242 d0_249 rfl rfl ?_
                      refine go_goto (pc' := 254) W3242 d0_250 (by decide) rfl ?_
                      refine go_istore (pc' := 256) (l' := #[.val (.int x0), .val (.int x1), .val (.int x2), .val (.int x3), .val (.int (x3 &&& (15 : Int32))), .val (.int (((x3.toUInt32 >>> ((4 : Int32) &&& 31).toUInt32).toInt32) &&& (15 : Int32))), .val (.int (((x3.toUInt32 >>> ((8 : Int32) &&& 31).toUInt32).toInt32) &&& (15 : Int32))), .val (.int (((x3.toUInt32 >>> ((12 : Int32) &&& 31).toUInt32).toInt32) &&& (15 : Int32))), .val (.int (0 : Int32)), .val (.int (0 : Int32)), .val (.int (1 : Int32)), .val (.ref b2369), .val (.ref b2623), .val (.ref b2939), .val (.ref b3051), .val (.int (own_res x1 x2 (own_p (((x3.toUInt32 >>> ((8 : Int32) &&& 31).toUInt32).toInt32) &&& (15 : Int32))) (own_qm (((x3.toUInt32 >>> ((8 : Int32) &&& 31).toUInt32).toInt32) &&& (15 : Int32))) (own_p (((x3.toUInt32 >>> ((4 : Int32) &&& 31).toUInt32).toInt32) &&& (15 : Int32))) (own_qm (((x3.toUInt32 >>> ((4 : Int32) &&& 31).toUInt32).toInt32) &&& (15 : Int32))))), .val (.int x1), .val (.int (((x3.toUInt32 >>> ((4 : Int32) &&& 31).toUInt32).toInt32) &&& (15 : Int32))), .val (.int (((x3.toUInt32 >>> ((8 : Int32) &&& 31).toUInt32).toInt32) &&& (15 : Int32))), .val (.int (1 : Int32))]) W3242 d0_254 rfl rfl ?_
                      refine go_iload (pc' := 258) W3242 d0_256 rfl rfl ?_
                      refine go_iload (pc' := 260) W3242 d0_258 rfl rfl ?_
                      refine go_icmp_ne (pt := 267) (pf := 263) W3242 d0_260 (by decide) rfl rfl (fun c260_3251 => ?_) (fun c260_3251 => ?_)
                      · exact absurd (own_rA c236_3247 (own_fin _ _) c246_3249) c260_3251
                      · -- pc 260 not taken
                        refine go_iconst (pc' := 264) (z := 1) W3242 d0_263 rfl rfl ?_
                        refine go_goto (pc' := 268) W3242 d0_264 (by decide) rfl ?_
                        exact go_retI W3242 (t := .boolean) rfl (by simp) rfl d0_268 (nb rfl) (nb rfl) (rfl)
              · exact absurd c212_3245 (by decide)
            · exact absurd c198_3244 (by decide)
          · exact absurd c186_3243 (by decide)
        · -- event 1
          show Go E _ (Fm E T3122 172 #[.val (.int x0), .val (.int x1), .val (.int x2), .val (.int x3), .val (.int (x3 &&& (15 : Int32))), .val (.int (((x3.toUInt32 >>> ((4 : Int32) &&& 31).toUInt32).toInt32) &&& (15 : Int32))), .val (.int (((x3.toUInt32 >>> ((8 : Int32) &&& 31).toUInt32).toInt32) &&& (15 : Int32))), .val (.int (((x3.toUInt32 >>> ((12 : Int32) &&& 31).toUInt32).toInt32) &&& (15 : Int32))), .val (.int (0 : Int32)), .val (.int (1 : Int32)), .val (.int (1 : Int32)), .val (.ref b2369), .val (.ref b2623), .val (.ref b2939), .val (.ref b3051), .unset, .unset, .unset, .unset, .unset] [])
          refine go_aload (pc' := 174) W3122 d0_172 rfl rfl rfl ?_
          refine go_iload (pc' := 176) W3122 d0_174 rfl rfl ?_
          refine go_iloadN (pc' := 177) W3122 d0_176 rfl rfl ?_
          refine go_iload (pc' := 179) W3122 d0_177 rfl rfl ?_
          refine go_callV (a := b3051) (kc := K34) (argsL := [(.int (1 : Int32)), (.int x2), (.int (1 : Int32))]) (rest := []) (pc' := 182) W3122 (w225 hw) (w226 hw) (nf_sel W3122 (w228 hw)) (w228 hw) (w227 hw) (w123 hw) (w229 hw) f3205 (rmSu_S11 E.l Z a0 hw b3051  x2 ta3122 tb3122 b2487 b2520 x2520 xo b2820 x1 (own_u (((x3.toUInt32 >>> ((4 : Int32) &&& 31).toUInt32).toInt32) &&& (15 : Int32))) (own_p (((x3.toUInt32 >>> ((4 : Int32) &&& 31).toUInt32).toInt32) &&& (15 : Int32))) (own_qm (((x3.toUInt32 >>> ((4 : Int32) &&& 31).toUInt32).toInt32) &&& (15 : Int32))) x2820 (own_u (((x3.toUInt32 >>> ((12 : Int32) &&& 31).toUInt32).toInt32) &&& (15 : Int32))) (own_p (((x3.toUInt32 >>> ((12 : Int32) &&& 31).toUInt32).toInt32) &&& (15 : Int32))) (own_qm (((x3.toUInt32 >>> ((12 : Int32) &&& 31).toUInt32).toInt32) &&& (15 : Int32))) h3122 n0 z3211 f3205 g3122_1 g3122_2 etp3122 kp3122_1 f3181 f3185 f3186 ob3183 (Sta.kept Sa k3210) (Sta.kept Sx k3210) (fun q => Nat.ne_of_lt (Nat.lt_of_lt_of_le Xo.lt old2496) q.symm) (fun q => Nat.ne_of_lt (Nat.lt_of_lt_of_le Xo.lt old2839) q.symm) etq3122 kq3122_1 ob3196) (by decide) pd24 rfl rfl rfl (nb rfl) (nb rfl) (nb rfl) (nb rfl) d0_179 rfl ?_
          rintro _ T3252 h3252 rfl W3252
          show Go E _ (Fm E T3252 182 #[.val (.int x0), .val (.int x1), .val (.int x2), .val (.int x3), .val (.int (x3 &&& (15 : Int32))), .val (.int (((x3.toUInt32 >>> ((4 : Int32) &&& 31).toUInt32).toInt32) &&& (15 : Int32))), .val (.int (((x3.toUInt32 >>> ((8 : Int32) &&& 31).toUInt32).toInt32) &&& (15 : Int32))), .val (.int (((x3.toUInt32 >>> ((12 : Int32) &&& 31).toUInt32).toInt32) &&& (15 : Int32))), .val (.int (0 : Int32)), .val (.int (1 : Int32)), .val (.int (1 : Int32)), .val (.ref b2369), .val (.ref b2623), .val (.ref b2939), .val (.ref b3051), .unset, .unset, .unset, .unset, .unset] [(.int (own_res x1 x2 (own_p (((x3.toUInt32 >>> ((12 : Int32) &&& 31).toUInt32).toInt32) &&& (15 : Int32))) (own_qm (((x3.toUInt32 >>> ((12 : Int32) &&& 31).toUInt32).toInt32) &&& (15 : Int32))) (own_p (((x3.toUInt32 >>> ((4 : Int32) &&& 31).toUInt32).toInt32) &&& (15 : Int32))) (own_qm (((x3.toUInt32 >>> ((4 : Int32) &&& 31).toUInt32).toInt32) &&& (15 : Int32)))))])
          refine go_istore (pc' := 184) (l' := #[.val (.int x0), .val (.int x1), .val (.int x2), .val (.int x3), .val (.int (x3 &&& (15 : Int32))), .val (.int (((x3.toUInt32 >>> ((4 : Int32) &&& 31).toUInt32).toInt32) &&& (15 : Int32))), .val (.int (((x3.toUInt32 >>> ((8 : Int32) &&& 31).toUInt32).toInt32) &&& (15 : Int32))), .val (.int (((x3.toUInt32 >>> ((12 : Int32) &&& 31).toUInt32).toInt32) &&& (15 : Int32))), .val (.int (0 : Int32)), .val (.int (1 : Int32)), .val (.int (1 : Int32)), .val (.ref b2369), .val (.ref b2623), .val (.ref b2939), .val (.ref b3051), .val (.int (own_res x1 x2 (own_p (((x3.toUInt32 >>> ((12 : Int32) &&& 31).toUInt32).toInt32) &&& (15 : Int32))) (own_qm (((x3.toUInt32 >>> ((12 : Int32) &&& 31).toUInt32).toInt32) &&& (15 : Int32))) (own_p (((x3.toUInt32 >>> ((4 : Int32) &&& 31).toUInt32).toInt32) &&& (15 : Int32))) (own_qm (((x3.toUInt32 >>> ((4 : Int32) &&& 31).toUInt32).toInt32) &&& (15 : Int32))))), .unset, .unset, .unset, .unset]) W3252 d0_182 rfl rfl ?_
          refine go_iload (pc' := 186) W3252 d0_184 rfl rfl ?_
          refine go_if_ne (pt := 193) (pf := 189) W3252 d0_186 (by decide) rfl rfl (fun c186_3253 => ?_) (fun c186_3253 => ?_)
          · -- pc 186 taken
            refine go_iloadN (pc' := 194) W3252 d0_193 rfl rfl ?_
            refine go_istore (pc' := 196) (l' := #[.val (.int x0), .val (.int x1), .val (.int x2), .val (.int x3), .val (.int (x3 &&& (15 : Int32))), .val (.int (((x3.toUInt32 >>> ((4 : Int32) &&& 31).toUInt32).toInt32) &&& (15 : Int32))), .val (.int (((x3.toUInt32 >>> ((8 : Int32) &&& 31).toUInt32).toInt32) &&& (15 : Int32))), .val (.int (((x3.toUInt32 >>> ((12 : Int32) &&& 31).toUInt32).toInt32) &&& (15 : Int32))), .val (.int (0 : Int32)), .val (.int (1 : Int32)), .val (.int (1 : Int32)), .val (.ref b2369), .val (.ref b2623), .val (.ref b2939), .val (.ref b3051), .val (.int (own_res x1 x2 (own_p (((x3.toUInt32 >>> ((12 : Int32) &&& 31).toUInt32).toInt32) &&& (15 : Int32))) (own_qm (((x3.toUInt32 >>> ((12 : Int32) &&& 31).toUInt32).toInt32) &&& (15 : Int32))) (own_p (((x3.toUInt32 >>> ((4 : Int32) &&& 31).toUInt32).toInt32) &&& (15 : Int32))) (own_qm (((x3.toUInt32 >>> ((4 : Int32) &&& 31).toUInt32).toInt32) &&& (15 : Int32))))), .val (.int x1), .unset, .unset, .unset]) W3252 d0_194 rfl rfl ?_
            refine go_iload (pc' := 198) W3252 d0_196 rfl rfl ?_
            refine go_if_ne (pt := 206) (pf := 201) W3252 d0_198 (by decide) rfl rfl (fun c198_3254 => ?_) (fun c198_3254 => ?_)
            · -- pc 198 taken
              refine go_iload (pc' := 208) W3252 d0_206 rfl rfl ?_
              refine go_istore (pc' := 210) (l' := #[.val (.int x0), .val (.int x1), .val (.int x2), .val (.int x3), .val (.int (x3 &&& (15 : Int32))), .val (.int (((x3.toUInt32 >>> ((4 : Int32) &&& 31).toUInt32).toInt32) &&& (15 : Int32))), .val (.int (((x3.toUInt32 >>> ((8 : Int32) &&& 31).toUInt32).toInt32) &&& (15 : Int32))), .val (.int (((x3.toUInt32 >>> ((12 : Int32) &&& 31).toUInt32).toInt32) &&& (15 : Int32))), .val (.int (0 : Int32)), .val (.int (1 : Int32)), .val (.int (1 : Int32)), .val (.ref b2369), .val (.ref b2623), .val (.ref b2939), .val (.ref b3051), .val (.int (own_res x1 x2 (own_p (((x3.toUInt32 >>> ((12 : Int32) &&& 31).toUInt32).toInt32) &&& (15 : Int32))) (own_qm (((x3.toUInt32 >>> ((12 : Int32) &&& 31).toUInt32).toInt32) &&& (15 : Int32))) (own_p (((x3.toUInt32 >>> ((4 : Int32) &&& 31).toUInt32).toInt32) &&& (15 : Int32))) (own_qm (((x3.toUInt32 >>> ((4 : Int32) &&& 31).toUInt32).toInt32) &&& (15 : Int32))))), .val (.int x1), .val (.int (((x3.toUInt32 >>> ((4 : Int32) &&& 31).toUInt32).toInt32) &&& (15 : Int32))), .unset, .unset]) W3252 d0_208 rfl rfl ?_
              refine go_iload (pc' := 212) W3252 d0_210 rfl rfl ?_
              refine go_if_eq (pt := 219) (pf := 215) W3252 d0_212 (by decide) rfl rfl (fun c212_3255 => ?_) (fun c212_3255 => ?_)
              · -- pc 212 taken
                refine go_iload (pc' := 221) W3252 d0_219 rfl rfl ?_
                refine go_if_ne (pt := 229) (pf := 224) W3252 d0_221 (by decide) rfl rfl (fun c221_3256 => ?_) (fun c221_3256 => ?_)
                · -- pc 221 taken
                  refine go_iload (pc' := 231) W3252 d0_229 rfl rfl ?_
                  refine go_istore (pc' := 233) (l' := #[.val (.int x0), .val (.int x1), .val (.int x2), .val (.int x3), .val (.int (x3 &&& (15 : Int32))), .val (.int (((x3.toUInt32 >>> ((4 : Int32) &&& 31).toUInt32).toInt32) &&& (15 : Int32))), .val (.int (((x3.toUInt32 >>> ((8 : Int32) &&& 31).toUInt32).toInt32) &&& (15 : Int32))), .val (.int (((x3.toUInt32 >>> ((12 : Int32) &&& 31).toUInt32).toInt32) &&& (15 : Int32))), .val (.int (0 : Int32)), .val (.int (1 : Int32)), .val (.int (1 : Int32)), .val (.ref b2369), .val (.ref b2623), .val (.ref b2939), .val (.ref b3051), .val (.int (own_res x1 x2 (own_p (((x3.toUInt32 >>> ((12 : Int32) &&& 31).toUInt32).toInt32) &&& (15 : Int32))) (own_qm (((x3.toUInt32 >>> ((12 : Int32) &&& 31).toUInt32).toInt32) &&& (15 : Int32))) (own_p (((x3.toUInt32 >>> ((4 : Int32) &&& 31).toUInt32).toInt32) &&& (15 : Int32))) (own_qm (((x3.toUInt32 >>> ((4 : Int32) &&& 31).toUInt32).toInt32) &&& (15 : Int32))))), .val (.int x1), .val (.int (((x3.toUInt32 >>> ((4 : Int32) &&& 31).toUInt32).toInt32) &&& (15 : Int32))), .val (.int (((x3.toUInt32 >>> ((12 : Int32) &&& 31).toUInt32).toInt32) &&& (15 : Int32))), .unset]) W3252 d0_231 rfl rfl ?_
                  refine go_iload (pc' := 235) W3252 d0_233 rfl rfl ?_
                  refine go_iloadN (pc' := 236) W3252 d0_235 rfl rfl ?_
                  refine go_icmp_lt (pt := 253) (pf := 239) W3252 d0_236 (by decide) rfl rfl (fun c236_3257 => ?_) (fun c236_3257 => ?_)
                  · -- pc 236 taken
                    refine go_iconst (pc' := 254) (z := 0) W3252 d0_253 rfl rfl ?_
                    refine go_istore (pc' := 256) (l' := #[.val (.int x0), .val (.int x1), .val (.int x2), .val (.int x3), .val (.int (x3 &&& (15 : Int32))), .val (.int (((x3.toUInt32 >>> ((4 : Int32) &&& 31).toUInt32).toInt32) &&& (15 : Int32))), .val (.int (((x3.toUInt32 >>> ((8 : Int32) &&& 31).toUInt32).toInt32) &&& (15 : Int32))), .val (.int (((x3.toUInt32 >>> ((12 : Int32) &&& 31).toUInt32).toInt32) &&& (15 : Int32))), .val (.int (0 : Int32)), .val (.int (1 : Int32)), .val (.int (1 : Int32)), .val (.ref b2369), .val (.ref b2623), .val (.ref b2939), .val (.ref b3051), .val (.int (own_res x1 x2 (own_p (((x3.toUInt32 >>> ((12 : Int32) &&& 31).toUInt32).toInt32) &&& (15 : Int32))) (own_qm (((x3.toUInt32 >>> ((12 : Int32) &&& 31).toUInt32).toInt32) &&& (15 : Int32))) (own_p (((x3.toUInt32 >>> ((4 : Int32) &&& 31).toUInt32).toInt32) &&& (15 : Int32))) (own_qm (((x3.toUInt32 >>> ((4 : Int32) &&& 31).toUInt32).toInt32) &&& (15 : Int32))))), .val (.int x1), .val (.int (((x3.toUInt32 >>> ((4 : Int32) &&& 31).toUInt32).toInt32) &&& (15 : Int32))), .val (.int (((x3.toUInt32 >>> ((12 : Int32) &&& 31).toUInt32).toInt32) &&& (15 : Int32))), .val (.int (0 : Int32))]) W3252 d0_254 rfl rfl ?_
                    refine go_iload (pc' := 258) W3252 d0_256 rfl rfl ?_
                    refine go_iload (pc' := 260) W3252 d0_258 rfl rfl ?_
                    refine go_icmp_ne (pt := 267) (pf := 263) W3252 d0_260 (by decide) rfl rfl (fun c260_3258 => ?_) (fun c260_3258 => ?_)
                    · exact absurd (own_r1 _ _ _ _ c236_3257).symm c260_3258
                    · -- pc 260 not taken
                      refine go_iconst (pc' := 264) (z := 1) W3252 d0_263 rfl rfl ?_
                      refine go_goto (pc' := 268) W3252 d0_264 (by decide) rfl ?_
                      exact go_retI W3252 (t := .boolean) rfl (by simp) rfl d0_268 (nb rfl) (nb rfl) (rfl)
                  · -- pc 236 not taken
                    refine go_iload (pc' := 241) W3252 d0_239 rfl rfl ?_
                    refine go_iload (pc' := 243) W3252 d0_241 rfl rfl ?_
                    refine go_iconst (pc' := 244) (z := -1) W3252 d0_243 rfl rfl ?_
                    refine go_ixor (pc' := 245) W3252 d0_244 rfl ?_
                    refine go_iand (pc' := 246) W3252 d0_245 rfl ?_
                    refine go_if_ne (pt := 253) (pf := 249) W3252 d0_246 (by decide) rfl rfl (fun c246_3259 => ?_) (fun c246_3259 => ?_)
                    · -- pc 246 taken
                      refine go_iconst (pc' := 254) (z := 0) W3252 d0_253 rfl rfl ?_
                      refine go_istore (pc' := 256) (l' := #[.val (.int x0), .val (.int x1), .val (.int x2), .val (.int x3), .val (.int (x3 &&& (15 : Int32))), .val (.int (((x3.toUInt32 >>> ((4 : Int32) &&& 31).toUInt32).toInt32) &&& (15 : Int32))), .val (.int (((x3.toUInt32 >>> ((8 : Int32) &&& 31).toUInt32).toInt32) &&& (15 : Int32))), .val (.int (((x3.toUInt32 >>> ((12 : Int32) &&& 31).toUInt32).toInt32) &&& (15 : Int32))), .val (.int (0 : Int32)), .val (.int (1 : Int32)), .val (.int (1 : Int32)), .val (.ref b2369), .val (.ref b2623), .val (.ref b2939), .val (.ref b3051), .val (.int (own_res x1 x2 (own_p (((x3.toUInt32 >>> ((12 : Int32) &&& 31).toUInt32).toInt32) &&& (15 : Int32))) (own_qm (((x3.toUInt32 >>> ((12 : Int32) &&& 31).toUInt32).toInt32) &&& (15 : Int32))) (own_p (((x3.toUInt32 >>> ((4 : Int32) &&& 31).toUInt32).toInt32) &&& (15 : Int32))) (own_qm (((x3.toUInt32 >>> ((4 : Int32) &&& 31).toUInt32).toInt32) &&& (15 : Int32))))), .val (.int x1), .val (.int (((x3.toUInt32 >>> ((4 : Int32) &&& 31).toUInt32).toInt32) &&& (15 : Int32))), .val (.int (((x3.toUInt32 >>> ((12 : Int32) &&& 31).toUInt32).toInt32) &&& (15 : Int32))), .val (.int (0 : Int32))]) W3252 d0_254 rfl rfl ?_
                      refine go_iload (pc' := 258) W3252 d0_256 rfl rfl ?_
                      refine go_iload (pc' := 260) W3252 d0_258 rfl rfl ?_
                      refine go_icmp_ne (pt := 267) (pf := 263) W3252 d0_260 (by decide) rfl rfl (fun c260_3260 => ?_) (fun c260_3260 => ?_)
                      · exact absurd (own_rB c236_3257 (own_fin _ _) c246_3259) c260_3260
                      · -- pc 260 not taken
                        refine go_iconst (pc' := 264) (z := 1) W3252 d0_263 rfl rfl ?_
                        refine go_goto (pc' := 268) W3252 d0_264 (by decide) rfl ?_
                        exact go_retI W3252 (t := .boolean) rfl (by simp) rfl d0_268 (nb rfl) (nb rfl) (rfl)
                    · -- pc 246 not taken
                      refine go_iconst (pc' := 250) (z := 1) W3252 d0_249 rfl rfl ?_
                      refine go_goto (pc' := 254) W3252 d0_250 (by decide) rfl ?_
                      refine go_istore (pc' := 256) (l' := #[.val (.int x0), .val (.int x1), .val (.int x2), .val (.int x3), .val (.int (x3 &&& (15 : Int32))), .val (.int (((x3.toUInt32 >>> ((4 : Int32) &&& 31).toUInt32).toInt32) &&& (15 : Int32))), .val (.int (((x3.toUInt32 >>> ((8 : Int32) &&& 31).toUInt32).toInt32) &&& (15 : Int32))), .val (.int (((x3.toUInt32 >>> ((12 : Int32) &&& 31).toUInt32).toInt32) &&& (15 : Int32))), .val (.int (0 : Int32)), .val (.int (1 : Int32)), .val (.int (1 : Int32)), .val (.ref b2369), .val (.ref b2623), .val (.ref b2939), .val (.ref b3051), .val (.int (own_res x1 x2 (own_p (((x3.toUInt32 >>> ((12 : Int32) &&& 31).toUInt32).toInt32) &&& (15 : Int32))) (own_qm (((x3.toUInt32 >>> ((12 : Int32) &&& 31).toUInt32).toInt32) &&& (15 : Int32))) (own_p (((x3.toUInt32 >>> ((4 : Int32) &&& 31).toUInt32).toInt32) &&& (15 : Int32))) (own_qm (((x3.toUInt32 >>> ((4 : Int32) &&& 31).toUInt32).toInt32) &&& (15 : Int32))))), .val (.int x1), .val (.int (((x3.toUInt32 >>> ((4 : Int32) &&& 31).toUInt32).toInt32) &&& (15 : Int32))), .val (.int (((x3.toUInt32 >>> ((12 : Int32) &&& 31).toUInt32).toInt32) &&& (15 : Int32))), .val (.int (1 : Int32))]) W3252 d0_254 rfl rfl ?_
                      refine go_iload (pc' := 258) W3252 d0_256 rfl rfl ?_
                      refine go_iload (pc' := 260) W3252 d0_258 rfl rfl ?_
                      refine go_icmp_ne (pt := 267) (pf := 263) W3252 d0_260 (by decide) rfl rfl (fun c260_3261 => ?_) (fun c260_3261 => ?_)
                      · exact absurd (own_rA c236_3257 (own_fin _ _) c246_3259) c260_3261
                      · -- pc 260 not taken
                        refine go_iconst (pc' := 264) (z := 1) W3252 d0_263 rfl rfl ?_
                        refine go_goto (pc' := 268) W3252 d0_264 (by decide) rfl ?_
                        exact go_retI W3252 (t := .boolean) rfl (by simp) rfl d0_268 (nb rfl) (nb rfl) (rfl)
                · exact absurd c221_3256 (by decide)
              · exact absurd c212_3255 (by decide)
            · exact absurd c198_3254 (by decide)
          · exact absurd c186_3253 (by decide)
  · -- pc 38 not taken
    refine go_iconst (pc' := 42) (z := 1) W d0_41 rfl rfl ?_
    refine go_goto (pc' := 46) W d0_42 (by decide) rfl ?_
    refine go_istore (pc' := 48) (l' := #[.val (.int x0), .val (.int x1), .val (.int x2), .val (.int x3), .val (.int (x3 &&& (15 : Int32))), .val (.int (((x3.toUInt32 >>> ((4 : Int32) &&& 31).toUInt32).toInt32) &&& (15 : Int32))), .val (.int (((x3.toUInt32 >>> ((8 : Int32) &&& 31).toUInt32).toInt32) &&& (15 : Int32))), .val (.int (((x3.toUInt32 >>> ((12 : Int32) &&& 31).toUInt32).toInt32) &&& (15 : Int32))), .val (.int (1 : Int32)), .unset, .unset, .unset, .unset, .unset, .unset, .unset, .unset, .unset, .unset, .unset]) W d0_46 rfl rfl ?_
    refine go_iloadN (pc' := 49) W d0_48 rfl rfl ?_
    refine go_bipush (pc' := 51) (z := 17) W d0_49 (by decide) rfl ?_
    refine go_iushr (pc' := 52) W d0_51 rfl ?_
    refine go_iconst (pc' := 53) (z := 1) W d0_52 rfl rfl ?_
    refine go_iand (pc' := 54) W d0_53 rfl ?_
    refine go_istore (pc' := 56) (l' := #[.val (.int x0), .val (.int x1), .val (.int x2), .val (.int x3), .val (.int (x3 &&& (15 : Int32))), .val (.int (((x3.toUInt32 >>> ((4 : Int32) &&& 31).toUInt32).toInt32) &&& (15 : Int32))), .val (.int (((x3.toUInt32 >>> ((8 : Int32) &&& 31).toUInt32).toInt32) &&& (15 : Int32))), .val (.int (((x3.toUInt32 >>> ((12 : Int32) &&& 31).toUInt32).toInt32) &&& (15 : Int32))), .val (.int (1 : Int32)), .val (.int (((x3.toUInt32 >>> ((17 : Int32) &&& 31).toUInt32).toInt32) &&& (1 : Int32))), .unset, .unset, .unset, .unset, .unset, .unset, .unset, .unset, .unset, .unset]) W d0_54 rfl rfl ?_
    refine go_iloadN (pc' := 57) W d0_56 rfl rfl ?_
    refine go_bipush (pc' := 59) (z := 18) W d0_57 (by decide) rfl ?_
    refine go_iushr (pc' := 60) W d0_59 rfl ?_
    refine go_iconst (pc' := 61) (z := 1) W d0_60 rfl rfl ?_
    refine go_iand (pc' := 62) W d0_61 rfl ?_
    refine go_istore (pc' := 64) (l' := #[.val (.int x0), .val (.int x1), .val (.int x2), .val (.int x3), .val (.int (x3 &&& (15 : Int32))), .val (.int (((x3.toUInt32 >>> ((4 : Int32) &&& 31).toUInt32).toInt32) &&& (15 : Int32))), .val (.int (((x3.toUInt32 >>> ((8 : Int32) &&& 31).toUInt32).toInt32) &&& (15 : Int32))), .val (.int (((x3.toUInt32 >>> ((12 : Int32) &&& 31).toUInt32).toInt32) &&& (15 : Int32))), .val (.int (1 : Int32)), .val (.int (((x3.toUInt32 >>> ((17 : Int32) &&& 31).toUInt32).toInt32) &&& (1 : Int32))), .val (.int (((x3.toUInt32 >>> ((18 : Int32) &&& 31).toUInt32).toInt32) &&& (1 : Int32))), .unset, .unset, .unset, .unset, .unset, .unset, .unset, .unset, .unset]) W d0_62 rfl rfl ?_
    refine go_new (pc' := 67) W (w0 hw) (w1 hw) (w2 hw) d0_64 (nb rfl) (nb rfl) rfl ?_
    intro T3262 h3262 b3262 g3262 W3262 E3262 A3262 D3262 M3262
    have ne3263 : de ≠ b3262 := by rw [g3262]; exact Nat.ne_of_lt Ad.lt
    have ne3264 : el ≠ b3262 := by rw [g3262]; exact Nat.ne_of_lt Xl.lt
    have ne3265 : es ≠ b3262 := by rw [g3262]; exact Nat.ne_of_lt As.lt
    have ge3266 : n0 ≤ b3262 := by rw [g3262]; exact Z0
    have old3267 : h0.size ≤ b3262 := by rw [g3262]; exact (Keep.refl h0 []).1
    have f3268 := Ad.ext E3262
    have f3269 := Xl.ext E3262
    have f3270 := Fl.ext E3262
    have f3271 := As.ext E3262
    have k3272 := (Keep.refl h0 []).ext E3262
    have z3273 := Nat.le_trans Z0 E3262.1
    have f3274 : Fld Z h3262 b3262 "java/util/AbstractList" "modCount" "I" (.int (0 : Int32)) := D3262 (Or.inl (w22 hw)) (ty := .int) (by decide)
    have f3275 : Fld Z h3262 b3262 "java/util/ArrayList" "elementData" "[Ljava/lang/Object;" .null := D3262 (Or.inl (w25 hw)) (ty := (.array (.object "java/lang/Object"))) (by decide)
    have f3276 : Fld Z h3262 b3262 "java/util/ArrayList" "size" "I" (.int (0 : Int32)) := D3262 (Or.inl (w97 hw)) (ty := .int) (by decide)
    refine go_dup (pc' := 68) W3262 d0_67 rfl rfl ?_
    refine go_callN (a := b3262) (kc := K1) (argsL := []) (rest := [(.ref b3262)]) (pc' := 71) W3262 (w3 hw) (w4 hw) (w2 hw) (w5 hw) (rm1 E.l Z a0 hw b3262 de h3262 n0 z3273 A3262 f3274 f3275 f3276 ge3266 (Sta.kept Sd k3272)) rfl rfl (by decide) pd0 rfl rfl rfl (nb rfl) (nb rfl) (nb rfl) (nb rfl) d0_68 rfl ?_
    rintro _ T3277 h3277 ⟨rfl, K3277, g3277_0, g3277_1, g3277_2⟩ W3277
    have f3278 := f3269.keep K3277
    have f3279 := f3270.keep K3277 (ninS ne3264 nin0)
    have f3280 := A3262.keep K3277
    have k3284 := k3272.trans K3277 (allS (Or.inr old3267) all0)
    have z3285 := Nat.le_trans z3273 K3277.1
    have f3286 := f3268.keep K3277 (ninS ne3263 nin0)
    have f3287 := f3271.keep K3277 (ninS ne3265 nin0)
    show Go E _ (Fm E T3277 71 #[.val (.int x0), .val (.int x1), .val (.int x2), .val (.int x3), .val (.int (x3 &&& (15 : Int32))), .val (.int (((x3.toUInt32 >>> ((4 : Int32) &&& 31).toUInt32).toInt32) &&& (15 : Int32))), .val (.int (((x3.toUInt32 >>> ((8 : Int32) &&& 31).toUInt32).toInt32) &&& (15 : Int32))), .val (.int (((x3.toUInt32 >>> ((12 : Int32) &&& 31).toUInt32).toInt32) &&& (15 : Int32))), .val (.int (1 : Int32)), .val (.int (((x3.toUInt32 >>> ((17 : Int32) &&& 31).toUInt32).toInt32) &&& (1 : Int32))), .val (.int (((x3.toUInt32 >>> ((18 : Int32) &&& 31).toUInt32).toInt32) &&& (1 : Int32))), .unset, .unset, .unset, .unset, .unset, .unset, .unset, .unset, .unset] [(.ref b3262)])
    refine go_astore (pc' := 73) (l' := #[.val (.int x0), .val (.int x1), .val (.int x2), .val (.int x3), .val (.int (x3 &&& (15 : Int32))), .val (.int (((x3.toUInt32 >>> ((4 : Int32) &&& 31).toUInt32).toInt32) &&& (15 : Int32))), .val (.int (((x3.toUInt32 >>> ((8 : Int32) &&& 31).toUInt32).toInt32) &&& (15 : Int32))), .val (.int (((x3.toUInt32 >>> ((12 : Int32) &&& 31).toUInt32).toInt32) &&& (15 : Int32))), .val (.int (1 : Int32)), .val (.int (((x3.toUInt32 >>> ((17 : Int32) &&& 31).toUInt32).toInt32) &&& (1 : Int32))), .val (.int (((x3.toUInt32 >>> ((18 : Int32) &&& 31).toUInt32).toInt32) &&& (1 : Int32))), .val (.ref b3262), .unset, .unset, .unset, .unset, .unset, .unset, .unset, .unset]) W3277 d0_71 rfl rfl rfl ?_
    refine go_aload (pc' := 75) W3277 d0_73 rfl rfl rfl ?_
    refine go_new (pc' := 78) W3277 (w26 hw) (w27 hw) (w28 hw) d0_75 (nb rfl) (nb rfl) rfl ?_
    intro T3288 h3288 b3288 g3288 W3288 E3288 A3288 D3288 M3288
    have ne3289 : el ≠ b3288 := by rw [g3288]; exact Nat.ne_of_lt f3278.lt
    have ne3290 : b3262 ≠ b3288 := by rw [g3288]; exact Nat.ne_of_lt f3280.lt
    have ne3291 : de ≠ b3288 := by rw [g3288]; exact Nat.ne_of_lt f3286.lt
    have ne3292 : es ≠ b3288 := by rw [g3288]; exact Nat.ne_of_lt f3287.lt
    have ge3293 : n0 ≤ b3288 := by rw [g3288]; exact z3285
    have old3294 : h0.size ≤ b3288 := by rw [g3288]; exact k3284.1
    have f3295 := f3278.ext E3288
    have f3296 := f3279.ext E3288
    have f3297 := f3280.ext E3288
    have f3298 := f3286.ext E3288
    have f3299 := f3287.ext E3288
    have f3300 := g3277_0.ext E3288
    have f3301 := g3277_1.ext E3288
    have f3302 := g3277_2.ext E3288
    have k3303 := k3284.ext E3288
    have z3304 := Nat.le_trans z3285 E3288.1
    have f3305 : Fld Z h3288 b3288 "com/example/slotwright/slotwright/EnrolmentInstance$Room" "size" "I" (.int (0 : Int32)) := D3288 (Or.inr (w86 hw)) (ty := .int) (by decide)
    have f3306 : Fld Z h3288 b3288 "com/example/slotwright/slotwright/EnrolmentInstance$Room" "features" "Ljava/util/BitSet;" .null := D3288 (Or.inr (w88 hw)) (ty := (.object "java/util/BitSet")) (by decide)
    refine go_dup (pc' := 79) W3288 d0_78 rfl rfl ?_
    refine go_iloadN (pc' := 80) W3288 d0_79 rfl rfl ?_
    refine go_iload (pc' := 82) W3288 d0_80 rfl rfl ?_
    refine go_callS (kc := K5) (argsL := [(.int (x3 &&& (15 : Int32)))]) (rest := [(.int x0), (.ref b3288), (.ref b3288), (.ref b3262)]) (pc' := 85) W3288 (w29 hw) (w30 hw) (w31 hw) (w32 hw) (rm5 E.l Z a0 hw (x3 &&& (15 : Int32)) h3288 n0 z3304 (Sta.kept Sa k3303)) (by decide) pd20 rfl rfl rfl (nb rfl) (nb rfl) (nb rfl) (nb rfl) d0_82 rfl ?_
    rintro _ T3307 h3307 ⟨b3307, x3307, rfl, gb3307, sb3307, gx3307, sx3307, nbx3307, K3307, B3307⟩ W3307
    have ne3308 : el ≠ b3307 := Nat.ne_of_lt (Nat.lt_of_lt_of_le f3295.lt sb3307)
    have ne3309 : b3262 ≠ b3307 := Nat.ne_of_lt (Nat.lt_of_lt_of_le f3297.lt sb3307)
    have ne3310 : de ≠ b3307 := Nat.ne_of_lt (Nat.lt_of_lt_of_le f3298.lt sb3307)
    have ne3311 : es ≠ b3307 := Nat.ne_of_lt (Nat.lt_of_lt_of_le f3299.lt sb3307)
    have ne3312 : b3288 ≠ b3307 := Nat.ne_of_lt (Nat.lt_of_lt_of_le A3288.lt sb3307)
    have old3313 : h0.size ≤ b3307 := Nat.le_trans k3303.1 sb3307
    have ne3314 : el ≠ x3307 := Nat.ne_of_lt (Nat.lt_of_lt_of_le f3295.lt sx3307)
    have ne3315 : b3262 ≠ x3307 := Nat.ne_of_lt (Nat.lt_of_lt_of_le f3297.lt sx3307)
    have ne3316 : de ≠ x3307 := Nat.ne_of_lt (Nat.lt_of_lt_of_le f3298.lt sx3307)
    have ne3317 : es ≠ x3307 := Nat.ne_of_lt (Nat.lt_of_lt_of_le f3299.lt sx3307)
    have ne3318 : b3288 ≠ x3307 := Nat.ne_of_lt (Nat.lt_of_lt_of_le A3288.lt sx3307)
    have old3319 : h0.size ≤ x3307 := Nat.le_trans k3303.1 sx3307
    have f3320 := f3295.keep K3307
    have f3321 := f3296.keep K3307 nin0
    have f3322 := f3297.keep K3307
    have f3323 := f3300.keep K3307 nin0
    have f3324 := f3301.keep K3307 nin0
    have f3325 := f3302.keep K3307 nin0
    have f3326 := A3288.keep K3307
    have f3327 := f3305.keep K3307 nin0
    have f3328 := f3306.keep K3307 nin0
    have k3329 := k3303.trans K3307 all0
    have z3330 := Nat.le_trans z3304 K3307.1
    have f3331 := f3298.keep K3307 nin0
    have f3332 := f3299.keep K3307 nin0
    have I3307 := own_B.ins hw B3307
    show Go E _ (Fm E T3307 85 #[.val (.int x0), .val (.int x1), .val (.int x2), .val (.int x3), .val (.int (x3 &&& (15 : Int32))), .val (.int (((x3.toUInt32 >>> ((4 : Int32) &&& 31).toUInt32).toInt32) &&& (15 : Int32))), .val (.int (((x3.toUInt32 >>> ((8 : Int32) &&& 31).toUInt32).toInt32) &&& (15 : Int32))), .val (.int (((x3.toUInt32 >>> ((12 : Int32) &&& 31).toUInt32).toInt32) &&& (15 : Int32))), .val (.int (1 : Int32)), .val (.int (((x3.toUInt32 >>> ((17 : Int32) &&& 31).toUInt32).toInt32) &&& (1 : Int32))), .val (.int (((x3.toUInt32 >>> ((18 : Int32) &&& 31).toUInt32).toInt32) &&& (1 : Int32))), .val (.ref b3262), .unset, .unset, .unset, .unset, .unset, .unset, .unset, .unset] [(.ref b3307), (.int x0), (.ref b3288), (.ref b3288), (.ref b3262)])
    refine go_callN (a := b3288) (kc := K13) (argsL := [(.int x0), (.ref b3307)]) (rest := [(.ref b3288), (.ref b3262)]) (pc' := 88) W3307 (w76 hw) (w77 hw) (w28 hw) (w78 hw) (rm13 E.l Z a0 hw b3288 x0 b3307  h3307 n0 z3330 f3326 f3327 f3328 ge3293 ) rfl rfl (by decide) pd21 rfl rfl rfl (nb rfl) (nb rfl) (nb rfl) (nb rfl) d0_85 rfl ?_
    rintro _ T3333 h3333 ⟨rfl, K3333, g3333_0, g3333_1⟩ W3333
    have f3334 := f3320.keep K3333
    have f3335 := f3321.keep K3333 (ninS ne3289 nin0)
    have f3336 := f3322.keep K3333
    have f3337 := f3323.keep K3333 (ninS ne3290 nin0)
    have f3338 := f3324.keep K3333 (ninS ne3290 nin0)
    have f3339 := f3325.keep K3333 (ninS ne3290 nin0)
    have f3340 := f3326.keep K3333
    have ob3344 := own_B.keep B3307 K3333 (ninS (Ne.symm ne3312) nin0) (ninS (Ne.symm ne3318) nin0)
    have f3345 := B3307.1.keep K3333
    have k3346 := k3329.trans K3333 (allS (Or.inr old3294) all0)
    have z3347 := Nat.le_trans z3330 K3333.1
    have f3348 := f3331.keep K3333 (ninS ne3291 nin0)
    have f3349 := f3332.keep K3333 (ninS ne3292 nin0)
    have f3350 := Ins.keepK I3307 K3333
    show Go E _ (Fm E T3333 88 #[.val (.int x0), .val (.int x1), .val (.int x2), .val (.int x3), .val (.int (x3 &&& (15 : Int32))), .val (.int (((x3.toUInt32 >>> ((4 : Int32) &&& 31).toUInt32).toInt32) &&& (15 : Int32))), .val (.int (((x3.toUInt32 >>> ((8 : Int32) &&& 31).toUInt32).toInt32) &&& (15 : Int32))), .val (.int (((x3.toUInt32 >>> ((12 : Int32) &&& 31).toUInt32).toInt32) &&& (15 : Int32))), .val (.int (1 : Int32)), .val (.int (((x3.toUInt32 >>> ((17 : Int32) &&& 31).toUInt32).toInt32) &&& (1 : Int32))), .val (.int (((x3.toUInt32 >>> ((18 : Int32) &&& 31).toUInt32).toInt32) &&& (1 : Int32))), .val (.ref b3262), .unset, .unset, .unset, .unset, .unset, .unset, .unset, .unset] [(.ref b3288), (.ref b3262)])
    have I3351 : Ins Z h3333 b3288 OB true := Ins.of_exa f3340 (w119 hw)
    refine go_callV (a := b3262) (kc := K15) (argsL := [(.ref b3288)]) (rest := []) (pc' := 91) W3333 (w89 hw) (w90 hw) (nf_sel W3333 (w92 hw)) (w92 hw) (w91 hw) (w2 hw) (w93 hw) f3336 (rmA_0 E.l Z a0 hw b3262 b3288 (0 : Int32) de h3333 n0 z3347 f3336 f3337 f3338 f3339 ge3266 (Sta.kept Sd k3346) f3348 (Ne.symm ne3263) I3351) (by decide) pd22 rfl rfl rfl (nb rfl) (nb rfl) (nb rfl) (nb rfl) d0_88 rfl ?_
    rintro _ T3352 h3352 ⟨y3352, rfl, gy3352, so3352, K3352, g3352_0, g3352_1, g3352_2, ay3352, ey3352⟩ W3352
    have ne3353 : el ≠ y3352 := Nat.ne_of_lt (Nat.lt_of_lt_of_le f3334.lt so3352)
    have ne3354 : b3262 ≠ y3352 := Nat.ne_of_lt (Nat.lt_of_lt_of_le f3336.lt so3352)
    have ne3355 : b3288 ≠ y3352 := Nat.ne_of_lt (Nat.lt_of_lt_of_le f3340.lt so3352)
    have ne3356 : b3307 ≠ y3352 := Nat.ne_of_lt (Nat.lt_of_lt_of_le f3345.lt so3352)
    have ne3357 : de ≠ y3352 := Nat.ne_of_lt (Nat.lt_of_lt_of_le f3348.lt so3352)
    have ne3358 : es ≠ y3352 := Nat.ne_of_lt (Nat.lt_of_lt_of_le f3349.lt so3352)
    have ne3359 : b3307 ≠ y3352 := Nat.ne_of_lt (Nat.lt_of_lt_of_le ob3344.1.lt so3352)
    have ne3360 : x3307 ≠ y3352 := Nat.ne_of_lt (Nat.lt_of_lt_of_le ob3344.ltx so3352)
    have old3361 : h0.size ≤ y3352 := Nat.le_trans k3346.1 so3352
    have f3362 := f3334.keep K3352
    have f3363 := f3335.keep K3352 (ninS ne3264 nin0)
    have f3364 := f3336.keep K3352
    have f3368 := f3340.keep K3352
    have ob3370 := own_B.keep ob3344 K3352 (ninS (Ne.symm ne3309) nin0) (ninS (Ne.symm ne3315) nin0)
    have f3371 := f3345.keep K3352
    have f3372 := g3333_0.keep K3352 (ninS (Ne.symm ne3290) nin0)
    have f3373 := g3333_1.keep K3352 (ninS (Ne.symm ne3290) nin0)
    have k3374 := k3346.trans K3352 (allS (Or.inr old3267) all0)
    have z3375 := Nat.le_trans z3347 K3352.1
    have f3376 := f3348.keep K3352 (ninS ne3263 nin0)
    have f3377 := f3349.keep K3352 (ninS ne3265 nin0)
    have f3378 := Ins.keepK f3350 K3352
    have f3379 := Ins.keepK I3351 K3352
    show Go E _ (Fm E T3352 91 #[.val (.int x0), .val (.int x1), .val (.int x2), .val (.int x3), .val (.int (x3 &&& (15 : Int32))), .val (.int (((x3.toUInt32 >>> ((4 : Int32) &&& 31).toUInt32).toInt32) &&& (15 : Int32))), .val (.int (((x3.toUInt32 >>> ((8 : Int32) &&& 31).toUInt32).toInt32) &&& (15 : Int32))), .val (.int (((x3.toUInt32 >>> ((12 : Int32) &&& 31).toUInt32).toInt32) &&& (15 : Int32))), .val (.int (1 : Int32)), .val (.int (((x3.toUInt32 >>> ((17 : Int32) &&& 31).toUInt32).toInt32) &&& (1 : Int32))), .val (.int (((x3.toUInt32 >>> ((18 : Int32) &&& 31).toUInt32).toInt32) &&& (1 : Int32))), .val (.ref b3262), .unset, .unset, .unset, .unset, .unset, .unset, .unset, .unset] [(.int (1 : Int32))])
    refine go_pop (pc' := 92) W3352 d0_91 rfl rfl ?_
    refine go_aload (pc' := 94) W3352 d0_92 rfl rfl rfl ?_
    refine go_new (pc' := 97) W3352 (w26 hw) (w27 hw) (w28 hw) d0_94 (nb rfl) (nb rfl) rfl ?_
    intro T3380 h3380 b3380 g3380 W3380 E3380 A3380 D3380 M3380
    have ne3381 : el ≠ b3380 := by rw [g3380]; exact Nat.ne_of_lt f3362.lt
    have ne3382 : b3262 ≠ b3380 := by rw [g3380]; exact Nat.ne_of_lt f3364.lt
    have ne3383 : b3288 ≠ b3380 := by rw [g3380]; exact Nat.ne_of_lt f3368.lt
    have ne3384 : b3307 ≠ b3380 := by rw [g3380]; exact Nat.ne_of_lt f3371.lt
    have ne3385 : de ≠ b3380 := by rw [g3380]; exact Nat.ne_of_lt f3376.lt
    have ne3386 : es ≠ b3380 := by rw [g3380]; exact Nat.ne_of_lt f3377.lt
    have ne3387 : y3352 ≠ b3380 := by rw [g3380]; exact Nat.ne_of_lt ay3352.lt
    have ge3388 : n0 ≤ b3380 := by rw [g3380]; exact z3375
    have old3389 : h0.size ≤ b3380 := by rw [g3380]; exact k3374.1
    have ne3390 : b3307 ≠ b3380 := by rw [g3380]; exact Nat.ne_of_lt ob3370.1.lt
    have ne3391 : x3307 ≠ b3380 := by rw [g3380]; exact Nat.ne_of_lt ob3370.ltx
    have f3392 := f3362.ext E3380
    have f3393 := f3363.ext E3380
    have f3394 := f3364.ext E3380
    have f3395 := f3368.ext E3380
    have ob3396 := own_B.keep ob3370 ((Keep.refl _ []).ext E3380) nin0 nin0
    have f3397 := f3371.ext E3380
    have f3398 := f3372.ext E3380
    have f3399 := f3373.ext E3380
    have f3400 := f3376.ext E3380
    have f3401 := f3377.ext E3380
    have f3402 := f3378.ext E3380
    have f3403 := f3379.ext E3380
    have f3404 := g3352_0.ext E3380
    have f3405 := g3352_1.ext E3380
    have f3406 := g3352_2.ext E3380
    have f3407 := ay3352.ext E3380
    have f3408 := ey3352.ext E3380
    have k3409 := k3374.ext E3380
    have z3410 := Nat.le_trans z3375 E3380.1
    have f3411 : Fld Z h3380 b3380 "com/example/slotwright/slotwright/EnrolmentInstance$Room" "size" "I" (.int (0 : Int32)) := D3380 (Or.inr (w86 hw)) (ty := .int) (by decide)
    have f3412 : Fld Z h3380 b3380 "com/example/slotwright/slotwright/EnrolmentInstance$Room" "features" "Ljava/util/BitSet;" .null := D3380 (Or.inr (w88 hw)) (ty := (.object "java/util/BitSet")) (by decide)
    refine go_dup (pc' := 98) W3380 d0_97 rfl rfl ?_
    refine go_iloadN (pc' := 99) W3380 d0_98 rfl rfl ?_
    refine go_iload (pc' := 101) W3380 d0_99 rfl rfl ?_
    refine go_callS (kc := K5) (argsL := [(.int (((x3.toUInt32 >>> ((4 : Int32) &&& 31).toUInt32).toInt32) &&& (15 : Int32)))]) (rest := [(.int x1), (.ref b3380), (.ref b3380), (.ref b3262)]) (pc' := 104) W3380 (w29 hw) (w30 hw) (w31 hw) (w32 hw) (rm5 E.l Z a0 hw (((x3.toUInt32 >>> ((4 : Int32) &&& 31).toUInt32).toInt32) &&& (15 : Int32)) h3380 n0 z3410 (Sta.kept Sa k3409)) (by decide) pd20 rfl rfl rfl (nb rfl) (nb rfl) (nb rfl) (nb rfl) d0_101 rfl ?_
    rintro _ T3413 h3413 ⟨b3413, x3413, rfl, gb3413, sb3413, gx3413, sx3413, nbx3413, K3413, B3413⟩ W3413
    have ne3414 : el ≠ b3413 := Nat.ne_of_lt (Nat.lt_of_lt_of_le f3392.lt sb3413)
    have ne3415 : b3262 ≠ b3413 := Nat.ne_of_lt (Nat.lt_of_lt_of_le f3394.lt sb3413)
    have ne3416 : b3288 ≠ b3413 := Nat.ne_of_lt (Nat.lt_of_lt_of_le f3395.lt sb3413)
    have ne3417 : b3307 ≠ b3413 := Nat.ne_of_lt (Nat.lt_of_lt_of_le f3397.lt sb3413)
    have ne3418 : de ≠ b3413 := Nat.ne_of_lt (Nat.lt_of_lt_of_le f3400.lt sb3413)
    have ne3419 : es ≠ b3413 := Nat.ne_of_lt (Nat.lt_of_lt_of_le f3401.lt sb3413)
    have ne3420 : y3352 ≠ b3413 := Nat.ne_of_lt (Nat.lt_of_lt_of_le f3407.lt sb3413)
    have ne3421 : b3380 ≠ b3413 := Nat.ne_of_lt (Nat.lt_of_lt_of_le A3380.lt sb3413)
    have ne3422 : b3307 ≠ b3413 := Nat.ne_of_lt (Nat.lt_of_lt_of_le ob3396.1.lt sb3413)
    have ne3423 : x3307 ≠ b3413 := Nat.ne_of_lt (Nat.lt_of_lt_of_le ob3396.ltx sb3413)
    have old3424 : h0.size ≤ b3413 := Nat.le_trans k3409.1 sb3413
    have ne3425 : el ≠ x3413 := Nat.ne_of_lt (Nat.lt_of_lt_of_le f3392.lt sx3413)
    have ne3426 : b3262 ≠ x3413 := Nat.ne_of_lt (Nat.lt_of_lt_of_le f3394.lt sx3413)
    have ne3427 : b3288 ≠ x3413 := Nat.ne_of_lt (Nat.lt_of_lt_of_le f3395.lt sx3413)
    have ne3428 : b3307 ≠ x3413 := Nat.ne_of_lt (Nat.lt_of_lt_of_le f3397.lt sx3413)
    have ne3429 : de ≠ x3413 := Nat.ne_of_lt (Nat.lt_of_lt_of_le f3400.lt sx3413)
    have ne3430 : es ≠ x3413 := Nat.ne_of_lt (Nat.lt_of_lt_of_le f3401.lt sx3413)
    have ne3431 : y3352 ≠ x3413 := Nat.ne_of_lt (Nat.lt_of_lt_of_le f3407.lt sx3413)
    have ne3432 : b3380 ≠ x3413 := Nat.ne_of_lt (Nat.lt_of_lt_of_le A3380.lt sx3413)
    have ne3433 : b3307 ≠ x3413 := Nat.ne_of_lt (Nat.lt_of_lt_of_le ob3396.1.lt sx3413)
    have ne3434 : x3307 ≠ x3413 := Nat.ne_of_lt (Nat.lt_of_lt_of_le ob3396.ltx sx3413)
    have old3435 : h0.size ≤ x3413 := Nat.le_trans k3409.1 sx3413
    have f3436 := f3392.keep K3413
    have f3437 := f3393.keep K3413 nin0
    have f3438 := f3394.keep K3413
    have f3439 := f3395.keep K3413
    have ob3441 := own_B.keep ob3396 K3413 nin0 nin0
    have f3442 := f3397.keep K3413
    have f3443 := f3398.keep K3413 nin0
    have f3444 := f3399.keep K3413 nin0
    have f3445 := f3404.keep K3413 nin0
    have f3446 := f3405.keep K3413 nin0
    have f3447 := f3406.keep K3413 nin0
    have f3448 := f3408.keep K3413
    have f3449 := A3380.keep K3413
    have f3450 := f3411.keep K3413 nin0
    have f3451 := f3412.keep K3413 nin0
    have k3452 := k3409.trans K3413 all0
    have z3453 := Nat.le_trans z3410 K3413.1
    have f3454 := f3400.keep K3413 nin0
    have f3455 := f3401.keep K3413 nin0
    have f3456 := f3407.keep K3413 nin0
    have f3457 := Ins.keepK f3402 K3413
    have f3458 := Ins.keepK f3403 K3413
    have I3413 := own_B.ins hw B3413
    show Go E _ (Fm E T3413 104 #[.val (.int x0), .val (.int x1), .val (.int x2), .val (.int x3), .val (.int (x3 &&& (15 : Int32))), .val (.int (((x3.toUInt32 >>> ((4 : Int32) &&& 31).toUInt32).toInt32) &&& (15 : Int32))), .val (.int (((x3.toUInt32 >>> ((8 : Int32) &&& 31).toUInt32).toInt32) &&& (15 : Int32))), .val (.int (((x3.toUInt32 >>> ((12 : Int32) &&& 31).toUInt32).toInt32) &&& (15 : Int32))), .val (.int (1 : Int32)), .val (.int (((x3.toUInt32 >>> ((17 : Int32) &&& 31).toUInt32).toInt32) &&& (1 : Int32))), .val (.int (((x3.toUInt32 >>> ((18 : Int32) &&& 31).toUInt32).toInt32) &&& (1 : Int32))), .val (.ref b3262), .unset, .unset, .unset, .unset, .unset, .unset, .unset, .unset] [(.ref b3413), (.int x1), (.ref b3380), (.ref b3380), (.ref b3262)])
    refine go_callN (a := b3380) (kc := K13) (argsL := [(.int x1), (.ref b3413)]) (rest := [(.ref b3380), (.ref b3262)]) (pc' := 107) W3413 (w76 hw) (w77 hw) (w28 hw) (w78 hw) (rm13 E.l Z a0 hw b3380 x1 b3413  h3413 n0 z3453 f3449 f3450 f3451 ge3388 ) rfl rfl (by decide) pd21 rfl rfl rfl (nb rfl) (nb rfl) (nb rfl) (nb rfl) d0_104 rfl ?_
    rintro _ T3459 h3459 ⟨rfl, K3459, g3459_0, g3459_1⟩ W3459
    have f3460 := f3436.keep K3459
    have f3461 := f3437.keep K3459 (ninS ne3381 nin0)
    have f3462 := f3438.keep K3459
    have f3463 := f3439.keep K3459
    have ob3465 := own_B.keep ob3441 K3459 (ninS ne3390 nin0) (ninS ne3391 nin0)
    have f3466 := f3442.keep K3459
    have f3467 := f3443.keep K3459 (ninS ne3383 nin0)
    have f3468 := f3444.keep K3459 (ninS ne3383 nin0)
    have f3469 := f3445.keep K3459 (ninS ne3382 nin0)
    have f3470 := f3446.keep K3459 (ninS ne3382 nin0)
    have f3471 := f3447.keep K3459 (ninS ne3382 nin0)
    have f3472 := f3448.keep K3459
    have f3473 := f3449.keep K3459
    have ob3477 := own_B.keep B3413 K3459 (ninS (Ne.symm ne3421) nin0) (ninS (Ne.symm ne3432) nin0)
    have f3478 := B3413.1.keep K3459
    have k3479 := k3452.trans K3459 (allS (Or.inr old3389) all0)
    have z3480 := Nat.le_trans z3453 K3459.1
    have f3481 := f3454.keep K3459 (ninS ne3385 nin0)
    have f3482 := f3455.keep K3459 (ninS ne3386 nin0)
    have f3483 := f3456.keep K3459 (ninS ne3387 nin0)
    have f3484 := Ins.keepK f3457 K3459
    have f3485 := Ins.keepK f3458 K3459
    have f3486 := Ins.keepK I3413 K3459
    show Go E _ (Fm E T3459 107 #[.val (.int x0), .val (.int x1), .val (.int x2), .val (.int x3), .val (.int (x3 &&& (15 : Int32))), .val (.int (((x3.toUInt32 >>> ((4 : Int32) &&& 31).toUInt32).toInt32) &&& (15 : Int32))), .val (.int (((x3.toUInt32 >>> ((8 : Int32) &&& 31).toUInt32).toInt32) &&& (15 : Int32))), .val (.int (((x3.toUInt32 >>> ((12 : Int32) &&& 31).toUInt32).toInt32) &&& (15 : Int32))), .val (.int (1 : Int32)), .val (.int (((x3.toUInt32 >>> ((17 : Int32) &&& 31).toUInt32).toInt32) &&& (1 : Int32))), .val (.int (((x3.toUInt32 >>> ((18 : Int32) &&& 31).toUInt32).toInt32) &&& (1 : Int32))), .val (.ref b3262), .unset, .unset, .unset, .unset, .unset, .unset, .unset, .unset] [(.ref b3380), (.ref b3262)])
    have I3487 : Ins Z h3459 b3380 OB true := Ins.of_exa f3473 (w119 hw)
    refine go_callV (a := b3262) (kc := K15) (argsL := [(.ref b3380)]) (rest := []) (pc' := 110) W3459 (w89 hw) (w90 hw) (nf_sel W3459 (w92 hw)) (w92 hw) (w91 hw) (w2 hw) (w93 hw) f3462 (rmA_1 E.l Z a0 hw b3262 b3380 y3352 ((0 : Int32) + (1 : Int32)) b3288 h3459 n0 z3480 f3462 f3469 f3470 f3471 ge3266 gy3352 ne3354 f3483 f3472 I3487) (by decide) pd22 rfl rfl rfl (nb rfl) (nb rfl) (nb rfl) (nb rfl) d0_107 rfl ?_
    rintro _ T3488 h3488 ⟨rfl, K3488, g3488_0, g3488_1, g3488_2, ay3488⟩ W3488
    have f3489 := f3460.keep K3488
    have f3490 := f3461.keep K3488 (ninS ne3264 (ninS ne3353 nin0))
    have f3491 := f3462.keep K3488
    have f3492 := f3463.keep K3488
    have ob3494 := own_B.keep ob3465 K3488 (ninS (Ne.symm ne3309) (ninS ne3359 nin0)) (ninS (Ne.symm ne3315) (ninS ne3360 nin0))
    have f3495 := f3466.keep K3488
    have f3496 := f3467.keep K3488 (ninS (Ne.symm ne3290) (ninS ne3355 nin0))
    have f3497 := f3468.keep K3488 (ninS (Ne.symm ne3290) (ninS ne3355 nin0))
    have f3501 := f3472.keep K3488
    have f3502 := f3473.keep K3488
    have ob3504 := own_B.keep ob3477 K3488 (ninS (Ne.symm ne3415) (ninS (Ne.symm ne3420) nin0)) (ninS (Ne.symm ne3426) (ninS (Ne.symm ne3431) nin0))
    have f3505 := f3478.keep K3488
    have f3506 := g3459_0.keep K3488 (ninS (Ne.symm ne3382) (ninS (Ne.symm ne3387) nin0))
    have f3507 := g3459_1.keep K3488 (ninS (Ne.symm ne3382) (ninS (Ne.symm ne3387) nin0))
    have k3508 := k3479.trans K3488 (allS (Or.inr old3267) (allS (Or.inr old3361) all0))
    have z3509 := Nat.le_trans z3480 K3488.1
    have f3510 := f3481.keep K3488 (ninS ne3263 (ninS ne3357 nin0))
    have f3511 := f3482.keep K3488 (ninS ne3265 (ninS ne3358 nin0))
    have f3512 := Ins.keepK f3484 K3488
    have f3513 := Ins.keepK f3485 K3488
    have f3514 := Ins.keepK f3486 K3488
    have f3515 := Ins.keepK I3487 K3488
    show Go E _ (Fm E T3488 110 #[.val (.int x0), .val (.int x1), .val (.int x2), .val (.int x3), .val (.int (x3 &&& (15 : Int32))), .val (.int (((x3.toUInt32 >>> ((4 : Int32) &&& 31).toUInt32).toInt32) &&& (15 : Int32))), .val (.int (((x3.toUInt32 >>> ((8 : Int32) &&& 31).toUInt32).toInt32) &&& (15 : Int32))), .val (.int (((x3.toUInt32 >>> ((12 : Int32) &&& 31).toUInt32).toInt32) &&& (15 : Int32))), .val (.int (1 : Int32)), .val (.int (((x3.toUInt32 >>> ((17 : Int32) &&& 31).toUInt32).toInt32) &&& (1 : Int32))), .val (.int (((x3.toUInt32 >>> ((18 : Int32) &&& 31).toUInt32).toInt32) &&& (1 : Int32))), .val (.ref b3262), .unset, .unset, .unset, .unset, .unset, .unset, .unset, .unset] [(.int (1 : Int32))])
    refine go_pop (pc' := 111) W3488 d0_110 rfl rfl ?_
    refine go_new (pc' := 114) W3488 (w0 hw) (w1 hw) (w2 hw) d0_111 (nb rfl) (nb rfl) rfl ?_
    intro T3516 h3516 b3516 g3516 W3516 E3516 A3516 D3516 M3516
    have ne3517 : el ≠ b3516 := by rw [g3516]; exact Nat.ne_of_lt f3489.lt
    have ne3518 : b3262 ≠ b3516 := by rw [g3516]; exact Nat.ne_of_lt f3491.lt
    have ne3519 : b3288 ≠ b3516 := by rw [g3516]; exact Nat.ne_of_lt f3492.lt
    have ne3520 : b3307 ≠ b3516 := by rw [g3516]; exact Nat.ne_of_lt f3495.lt
    have ne3521 : y3352 ≠ b3516 := by rw [g3516]; exact Nat.ne_of_lt f3501.lt
    have ne3522 : b3380 ≠ b3516 := by rw [g3516]; exact Nat.ne_of_lt f3502.lt
    have ne3523 : b3413 ≠ b3516 := by rw [g3516]; exact Nat.ne_of_lt f3505.lt
    have ne3524 : de ≠ b3516 := by rw [g3516]; exact Nat.ne_of_lt f3510.lt
    have ne3525 : es ≠ b3516 := by rw [g3516]; exact Nat.ne_of_lt f3511.lt
    have ge3526 : n0 ≤ b3516 := by rw [g3516]; exact z3509
    have old3527 : h0.size ≤ b3516 := by rw [g3516]; exact k3508.1
    have ne3528 : b3307 ≠ b3516 := by rw [g3516]; exact Nat.ne_of_lt ob3494.1.lt
    have ne3529 : x3307 ≠ b3516 := by rw [g3516]; exact Nat.ne_of_lt ob3494.ltx
    have ne3530 : b3413 ≠ b3516 := by rw [g3516]; exact Nat.ne_of_lt ob3504.1.lt
    have ne3531 : x3413 ≠ b3516 := by rw [g3516]; exact Nat.ne_of_lt ob3504.ltx
    have f3532 := f3489.ext E3516
    have f3533 := f3490.ext E3516
    have f3534 := f3491.ext E3516
    have f3535 := f3492.ext E3516
    have ob3536 := own_B.keep ob3494 ((Keep.refl _ []).ext E3516) nin0 nin0
    have f3537 := f3495.ext E3516
    have f3538 := f3496.ext E3516
    have f3539 := f3497.ext E3516
    have f3540 := f3501.ext E3516
    have f3541 := f3502.ext E3516
    have ob3542 := own_B.keep ob3504 ((Keep.refl _ []).ext E3516) nin0 nin0
    have f3543 := f3505.ext E3516
    have f3544 := f3506.ext E3516
    have f3545 := f3507.ext E3516
    have f3546 := f3510.ext E3516
    have f3547 := f3511.ext E3516
    have f3548 := f3512.ext E3516
    have f3549 := f3513.ext E3516
    have f3550 := f3514.ext E3516
    have f3551 := f3515.ext E3516
    have f3552 := g3488_0.ext E3516
    have f3553 := g3488_1.ext E3516
    have f3554 := g3488_2.ext E3516
    have f3555 := ay3488.ext E3516
    have k3556 := k3508.ext E3516
    have z3557 := Nat.le_trans z3509 E3516.1
    have f3558 : Fld Z h3516 b3516 "java/util/AbstractList" "modCount" "I" (.int (0 : Int32)) := D3516 (Or.inl (w22 hw)) (ty := .int) (by decide)
    have f3559 : Fld Z h3516 b3516 "java/util/ArrayList" "elementData" "[Ljava/lang/Object;" .null := D3516 (Or.inl (w25 hw)) (ty := (.array (.object "java/lang/Object"))) (by decide)
    have f3560 : Fld Z h3516 b3516 "java/util/ArrayList" "size" "I" (.int (0 : Int32)) := D3516 (Or.inl (w97 hw)) (ty := .int) (by decide)
    refine go_dup (pc' := 115) W3516 d0_114 rfl rfl ?_
    refine go_callN (a := b3516) (kc := K1) (argsL := []) (rest := [(.ref b3516)]) (pc' := 118) W3516 (w3 hw) (w4 hw) (w2 hw) (w5 hw) (rm1 E.l Z a0 hw b3516 de h3516 n0 z3557 A3516 f3558 f3559 f3560 ge3526 (Sta.kept Sd k3556)) rfl rfl (by decide) pd0 rfl rfl rfl (nb rfl) (nb rfl) (nb rfl) (nb rfl) d0_115 rfl ?_
    rintro _ T3561 h3561 ⟨rfl, K3561, g3561_0, g3561_1, g3561_2⟩ W3561
    have f3562 := f3532.keep K3561
    have f3563 := f3533.keep K3561 (ninS ne3517 nin0)
    have f3564 := f3534.keep K3561
    have f3565 := f3535.keep K3561
    have ob3567 := own_B.keep ob3536 K3561 (ninS ne3528 nin0) (ninS ne3529 nin0)
    have f3568 := f3537.keep K3561
    have f3569 := f3538.keep K3561 (ninS ne3519 nin0)
    have f3570 := f3539.keep K3561 (ninS ne3519 nin0)
    have f3571 := f3540.keep K3561
    have f3572 := f3541.keep K3561
    have ob3574 := own_B.keep ob3542 K3561 (ninS ne3530 nin0) (ninS ne3531 nin0)
    have f3575 := f3543.keep K3561
    have f3576 := f3544.keep K3561 (ninS ne3522 nin0)
    have f3577 := f3545.keep K3561 (ninS ne3522 nin0)
    have f3578 := f3552.keep K3561 (ninS ne3518 nin0)
    have f3579 := f3553.keep K3561 (ninS ne3518 nin0)
    have f3580 := f3554.keep K3561 (ninS ne3518 nin0)
    have f3581 := A3516.keep K3561
    have k3585 := k3556.trans K3561 (allS (Or.inr old3527) all0)
    have z3586 := Nat.le_trans z3557 K3561.1
    have f3587 := f3546.keep K3561 (ninS ne3524 nin0)
    have f3588 := f3547.keep K3561 (ninS ne3525 nin0)
    have f3589 := f3555.keep K3561 (ninS ne3521 nin0)
    have f3590 := Ins.keepK f3548 K3561
    have f3591 := Ins.keepK f3549 K3561
    have f3592 := Ins.keepK f3550 K3561
    have f3593 := Ins.keepK f3551 K3561
    show Go E _ (Fm E T3561 118 #[.val (.int x0), .val (.int x1), .val (.int x2), .val (.int x3), .val (.int (x3 &&& (15 : Int32))), .val (.int (((x3.toUInt32 >>> ((4 : Int32) &&& 31).toUInt32).toInt32) &&& (15 : Int32))), .val (.int (((x3.toUInt32 >>> ((8 : Int32) &&& 31).toUInt32).toInt32) &&& (15 : Int32))), .val (.int (((x3.toUInt32 >>> ((12 : Int32) &&& 31).toUInt32).toInt32) &&& (15 : Int32))), .val (.int (1 : Int32)), .val (.int (((x3.toUInt32 >>> ((17 : Int32) &&& 31).toUInt32).toInt32) &&& (1 : Int32))), .val (.int (((x3.toUInt32 >>> ((18 : Int32) &&& 31).toUInt32).toInt32) &&& (1 : Int32))), .val (.ref b3262), .unset, .unset, .unset, .unset, .unset, .unset, .unset, .unset] [(.ref b3516)])
    refine go_astore (pc' := 120) (l' := #[.val (.int x0), .val (.int x1), .val (.int x2), .val (.int x3), .val (.int (x3 &&& (15 : Int32))), .val (.int (((x3.toUInt32 >>> ((4 : Int32) &&& 31).toUInt32).toInt32) &&& (15 : Int32))), .val (.int (((x3.toUInt32 >>> ((8 : Int32) &&& 31).toUInt32).toInt32) &&& (15 : Int32))), .val (.int (((x3.toUInt32 >>> ((12 : Int32) &&& 31).toUInt32).toInt32) &&& (15 : Int32))), .val (.int (1 : Int32)), .val (.int (((x3.toUInt32 >>> ((17 : Int32) &&& 31).toUInt32).toInt32) &&& (1 : Int32))), .val (.int (((x3.toUInt32 >>> ((18 : Int32) &&& 31).toUInt32).toInt32) &&& (1 : Int32))), .val (.ref b3262), .val (.ref b3516), .unset, .unset, .unset, .unset, .unset, .unset, .unset]) W3561 d0_118 rfl rfl rfl ?_
    refine go_iload (pc' := 122) W3561 d0_120 rfl rfl ?_
    refine go_if_ne (pt := 147) (pf := 125) W3561 d0_122 (by decide) rfl rfl (fun c122_3594 => ?_) (fun c122_3594 => ?_)
    · -- pc 122 taken
      refine go_new (pc' := 150) W3561 (w0 hw) (w1 hw) (w2 hw) d0_147 (nb rfl) (nb rfl) rfl ?_
      intro T3595 h3595 b3595 g3595 W3595 E3595 A3595 D3595 M3595
      have ne3596 : el ≠ b3595 := by rw [g3595]; exact Nat.ne_of_lt f3562.lt
      have ne3597 : b3262 ≠ b3595 := by rw [g3595]; exact Nat.ne_of_lt f3564.lt
      have ne3598 : b3288 ≠ b3595 := by rw [g3595]; exact Nat.ne_of_lt f3565.lt
      have ne3599 : b3307 ≠ b3595 := by rw [g3595]; exact Nat.ne_of_lt f3568.lt
      have ne3600 : y3352 ≠ b3595 := by rw [g3595]; exact Nat.ne_of_lt f3571.lt
      have ne3601 : b3380 ≠ b3595 := by rw [g3595]; exact Nat.ne_of_lt f3572.lt
      have ne3602 : b3413 ≠ b3595 := by rw [g3595]; exact Nat.ne_of_lt f3575.lt
      have ne3603 : b3516 ≠ b3595 := by rw [g3595]; exact Nat.ne_of_lt f3581.lt
      have ne3604 : de ≠ b3595 := by rw [g3595]; exact Nat.ne_of_lt f3587.lt
      have ne3605 : es ≠ b3595 := by rw [g3595]; exact Nat.ne_of_lt f3588.lt
      have ge3606 : n0 ≤ b3595 := by rw [g3595]; exact z3586
      have old3607 : h0.size ≤ b3595 := by rw [g3595]; exact k3585.1
      have ne3608 : b3307 ≠ b3595 := by rw [g3595]; exact Nat.ne_of_lt ob3567.1.lt
      have ne3609 : x3307 ≠ b3595 := by rw [g3595]; exact Nat.ne_of_lt ob3567.ltx
      have ne3610 : b3413 ≠ b3595 := by rw [g3595]; exact Nat.ne_of_lt ob3574.1.lt
      have ne3611 : x3413 ≠ b3595 := by rw [g3595]; exact Nat.ne_of_lt ob3574.ltx
      have f3612 := f3562.ext E3595
      have f3613 := f3563.ext E3595
      have f3614 := f3564.ext E3595
      have f3615 := f3565.ext E3595
      have ob3616 := own_B.keep ob3567 ((Keep.refl _ []).ext E3595) nin0 nin0
      have f3617 := f3568.ext E3595
      have f3618 := f3569.ext E3595
      have f3619 := f3570.ext E3595
      have f3620 := f3571.ext E3595
      have f3621 := f3572.ext E3595
      have ob3622 := own_B.keep ob3574 ((Keep.refl _ []).ext E3595) nin0 nin0
      have f3623 := f3575.ext E3595
      have f3624 := f3576.ext E3595
      have f3625 := f3577.ext E3595
      have f3626 := f3578.ext E3595
      have f3627 := f3579.ext E3595
      have f3628 := f3580.ext E3595
      have f3629 := f3581.ext E3595
      have f3630 := f3587.ext E3595
      have f3631 := f3588.ext E3595
      have f3632 := f3589.ext E3595
      have f3633 := f3590.ext E3595
      have f3634 := f3591.ext E3595
      have f3635 := f3592.ext E3595
      have f3636 := f3593.ext E3595
      have f3637 := g3561_0.ext E3595
      have f3638 := g3561_1.ext E3595
      have f3639 := g3561_2.ext E3595
      have k3640 := k3585.ext E3595
      have z3641 := Nat.le_trans z3586 E3595.1
      have f3642 : Fld Z h3595 b3595 "java/util/AbstractList" "modCount" "I" (.int (0 : Int32)) := D3595 (Or.inl (w22 hw)) (ty := .int) (by decide)
      have f3643 : Fld Z h3595 b3595 "java/util/ArrayList" "elementData" "[Ljava/lang/Object;" .null := D3595 (Or.inl (w25 hw)) (ty := (.array (.object "java/lang/Object"))) (by decide)
      have f3644 : Fld Z h3595 b3595 "java/util/ArrayList" "size" "I" (.int (0 : Int32)) := D3595 (Or.inl (w97 hw)) (ty := .int) (by decide)
      refine go_dup (pc' := 151) W3595 d0_150 rfl rfl ?_
      refine go_callN (a := b3595) (kc := K1) (argsL := []) (rest := [(.ref b3595)]) (pc' := 154) W3595 (w3 hw) (w4 hw) (w2 hw) (w5 hw) (rm1 E.l Z a0 hw b3595 de h3595 n0 z3641 A3595 f3642 f3643 f3644 ge3606 (Sta.kept Sd k3640)) rfl rfl (by decide) pd0 rfl rfl rfl (nb rfl) (nb rfl) (nb rfl) (nb rfl) d0_151 rfl ?_
      rintro _ T3645 h3645 ⟨rfl, K3645, g3645_0, g3645_1, g3645_2⟩ W3645
      have f3646 := f3612.keep K3645
      have f3647 := f3613.keep K3645 (ninS ne3596 nin0)
      have f3648 := f3614.keep K3645
      have f3649 := f3615.keep K3645
      have ob3651 := own_B.keep ob3616 K3645 (ninS ne3608 nin0) (ninS ne3609 nin0)
      have f3652 := f3617.keep K3645
      have f3653 := f3618.keep K3645 (ninS ne3598 nin0)
      have f3654 := f3619.keep K3645 (ninS ne3598 nin0)
      have f3655 := f3620.keep K3645
      have f3656 := f3621.keep K3645
      have ob3658 := own_B.keep ob3622 K3645 (ninS ne3610 nin0) (ninS ne3611 nin0)
      have f3659 := f3623.keep K3645
      have f3660 := f3624.keep K3645 (ninS ne3601 nin0)
      have f3661 := f3625.keep K3645 (ninS ne3601 nin0)
      have f3662 := f3626.keep K3645 (ninS ne3597 nin0)
      have f3663 := f3627.keep K3645 (ninS ne3597 nin0)
      have f3664 := f3628.keep K3645 (ninS ne3597 nin0)
      have f3665 := f3629.keep K3645
      have f3666 := f3637.keep K3645 (ninS ne3603 nin0)
      have f3667 := f3638.keep K3645 (ninS ne3603 nin0)
      have f3668 := f3639.keep K3645 (ninS ne3603 nin0)
      have f3669 := A3595.keep K3645
      have k3673 := k3640.trans K3645 (allS (Or.inr old3607) all0)
      have z3674 := Nat.le_trans z3641 K3645.1
      have f3675 := f3630.keep K3645 (ninS ne3604 nin0)
      have f3676 := f3631.keep K3645 (ninS ne3605 nin0)
      have f3677 := f3632.keep K3645 (ninS ne3600 nin0)
      have f3678 := Ins.keepK f3633 K3645
      have f3679 := Ins.keepK f3634 K3645
      have f3680 := Ins.keepK f3635 K3645
      have f3681 := Ins.keepK f3636 K3645
      show Go E _ (Fm E T3645 154 #[.val (.int x0), .val (.int x1), .val (.int x2), .val (.int x3), .val (.int (x3 &&& (15 : Int32))), .val (.int (((x3.toUInt32 >>> ((4 : Int32) &&& 31).toUInt32).toInt32) &&& (15 : Int32))), .val (.int (((x3.toUInt32 >>> ((8 : Int32) &&& 31).toUInt32).toInt32) &&& (15 : Int32))), .val (.int (((x3.toUInt32 >>> ((12 : Int32) &&& 31).toUInt32).toInt32) &&& (15 : Int32))), .val (.int (1 : Int32)), .val (.int (((x3.toUInt32 >>> ((17 : Int32) &&& 31).toUInt32).toInt32) &&& (1 : Int32))), .val (.int (((x3.toUInt32 >>> ((18 : Int32) &&& 31).toUInt32).toInt32) &&& (1 : Int32))), .val (.ref b3262), .val (.ref b3516), .unset, .unset, .unset, .unset, .unset, .unset, .unset] [(.ref b3595)])
      refine go_astore (pc' := 156) (l' := #[.val (.int x0), .val (.int x1), .val (.int x2), .val (.int x3), .val (.int (x3 &&& (15 : Int32))), .val (.int (((x3.toUInt32 >>> ((4 : Int32) &&& 31).toUInt32).toInt32) &&& (15 : Int32))), .val (.int (((x3.toUInt32 >>> ((8 : Int32) &&& 31).toUInt32).toInt32) &&& (15 : Int32))), .val (.int (((x3.toUInt32 >>> ((12 : Int32) &&& 31).toUInt32).toInt32) &&& (15 : Int32))), .val (.int (1 : Int32)), .val (.int (((x3.toUInt32 >>> ((17 : Int32) &&& 31).toUInt32).toInt32) &&& (1 : Int32))), .val (.int (((x3.toUInt32 >>> ((18 : Int32) &&& 31).toUInt32).toInt32) &&& (1 : Int32))), .val (.ref b3262), .val (.ref b3516), .val (.ref b3595), .unset, .unset, .unset, .unset, .unset, .unset]) W3645 d0_154 rfl rfl rfl ?_
      refine go_new (pc' := 159) W3645 (w121 hw) (w122 hw) (w123 hw) d0_156 (nb rfl) (nb rfl) rfl ?_
      intro T3682 h3682 b3682 g3682 W3682 E3682 A3682 D3682 M3682
      have ne3683 : el ≠ b3682 := by rw [g3682]; exact Nat.ne_of_lt f3646.lt
      have ne3684 : b3262 ≠ b3682 := by rw [g3682]; exact Nat.ne_of_lt f3648.lt
      have ne3685 : b3288 ≠ b3682 := by rw [g3682]; exact Nat.ne_of_lt f3649.lt
      have ne3686 : b3307 ≠ b3682 := by rw [g3682]; exact Nat.ne_of_lt f3652.lt
      have ne3687 : y3352 ≠ b3682 := by rw [g3682]; exact Nat.ne_of_lt f3655.lt
      have ne3688 : b3380 ≠ b3682 := by rw [g3682]; exact Nat.ne_of_lt f3656.lt
      have ne3689 : b3413 ≠ b3682 := by rw [g3682]; exact Nat.ne_of_lt f3659.lt
      have ne3690 : b3516 ≠ b3682 := by rw [g3682]; exact Nat.ne_of_lt f3665.lt
      have ne3691 : b3595 ≠ b3682 := by rw [g3682]; exact Nat.ne_of_lt f3669.lt
      have ne3692 : de ≠ b3682 := by rw [g3682]; exact Nat.ne_of_lt f3675.lt
      have ne3693 : es ≠ b3682 := by rw [g3682]; exact Nat.ne_of_lt f3676.lt
      have ge3694 : n0 ≤ b3682 := by rw [g3682]; exact z3674
      have old3695 : h0.size ≤ b3682 := by rw [g3682]; exact k3673.1
      have ne3696 : b3307 ≠ b3682 := by rw [g3682]; exact Nat.ne_of_lt ob3651.1.lt
      have ne3697 : x3307 ≠ b3682 := by rw [g3682]; exact Nat.ne_of_lt ob3651.ltx
      have ne3698 : b3413 ≠ b3682 := by rw [g3682]; exact Nat.ne_of_lt ob3658.1.lt
      have ne3699 : x3413 ≠ b3682 := by rw [g3682]; exact Nat.ne_of_lt ob3658.ltx
      have f3700 := f3646.ext E3682
      have f3701 := f3647.ext E3682
      have f3702 := f3648.ext E3682
      have f3703 := f3649.ext E3682
      have ob3704 := own_B.keep ob3651 ((Keep.refl _ []).ext E3682) nin0 nin0
      have f3705 := f3652.ext E3682
      have f3706 := f3653.ext E3682
      have f3707 := f3654.ext E3682
      have f3708 := f3655.ext E3682
      have f3709 := f3656.ext E3682
      have ob3710 := own_B.keep ob3658 ((Keep.refl _ []).ext E3682) nin0 nin0
      have f3711 := f3659.ext E3682
      have f3712 := f3660.ext E3682
      have f3713 := f3661.ext E3682
      have f3714 := f3662.ext E3682
      have f3715 := f3663.ext E3682
      have f3716 := f3664.ext E3682
      have f3717 := f3665.ext E3682
      have f3718 := f3666.ext E3682
      have f3719 := f3667.ext E3682
      have f3720 := f3668.ext E3682
      have f3721 := f3669.ext E3682
      have f3722 := f3675.ext E3682
      have f3723 := f3676.ext E3682
      have f3724 := f3677.ext E3682
      have f3725 := f3678.ext E3682
      have f3726 := f3679.ext E3682
      have f3727 := f3680.ext E3682
      have f3728 := f3681.ext E3682
      have f3729 := g3645_0.ext E3682
      have f3730 := g3645_1.ext E3682
      have f3731 := g3645_2.ext E3682
      have k3732 := k3673.ext E3682
      have z3733 := Nat.le_trans z3674 E3682.1
      have f3734 : Fld Z h3682 b3682 "com/example/slotwright/slotwright/EnrolmentInstance" "events" "I" (.int (0 : Int32)) := D3682 (Or.inr (w129 hw)) (ty := .int) (by decide)
      have f3735 : Fld Z h3682 b3682 "com/example/slotwright/slotwright/EnrolmentInstance" "rooms" "Ljava/util/List;" .null := D3682 (Or.inr (w216 hw)) (ty := (.object "java/util/List")) (by decide)
      have f3736 : Fld Z h3682 b3682 "com/example/slotwright/slotwright/EnrolmentInstance" "eventFeatures" "Ljava/util/List;" .null := D3682 (Or.inr (w218 hw)) (ty := (.object "java/util/List")) (by decide)
      have f3737 : Fld Z h3682 b3682 "com/example/slotwright/slotwright/EnrolmentInstance" "attendance" "Ljava/util/List;" .null := D3682 (Or.inr (w224 hw)) (ty := (.object "java/util/List")) (by decide)
      refine go_dup (pc' := 160) W3682 d0_159 rfl rfl ?_
      refine go_iconst (pc' := 161) (z := 2) W3682 d0_160 rfl rfl ?_
      refine go_aload (pc' := 163) W3682 d0_161 rfl rfl rfl ?_
      refine go_aload (pc' := 165) W3682 d0_163 rfl rfl rfl ?_
      refine go_aload (pc' := 167) W3682 d0_165 rfl rfl rfl ?_
      refine go_callN (a := b3682) (kc := K20) (argsL := [(.int (2 : Int32)), (.ref b3262), (.ref b3516), (.ref b3595)]) (rest := [(.ref b3682)]) (pc' := 170) W3682 (w124 hw) (w125 hw) (w123 hw) (w126 hw) (rmEI_N E.l Z a0 hw b3682 b3262 b3516 b3595 (((0 : Int32) + (1 : Int32)) + (1 : Int32)) (0 : Int32) (0 : Int32) y3352 b3288 b3380 de el mr h3682 n0 z3733 A3682 f3734 f3735 f3736 f3737 ge3694 f3702 f3714 f3715 f3716 ne3354 f3724 f3708 f3726 f3728 (Ne.symm ne3684) (Ne.symm ne3687) f3717 f3718 f3719 f3720 (Ne.symm ne3690) f3721 f3729 f3730 f3731 (Ne.symm ne3691) Mr (Sta.kept Sl k3732)) rfl rfl (by decide) pd23 rfl rfl rfl (nb rfl) (nb rfl) (nb rfl) (nb rfl) d0_167 rfl ?_
      rintro _ T3738 h3738 ⟨ta3738, rfl, sa3738, K3738, g3738_0, g3738_1, g3738_2, g3738_3, etp3738, kp3738_0, kp3738_1⟩ W3738
      have ne3739 : el ≠ ta3738 := Nat.ne_of_lt (Nat.lt_of_lt_of_le f3700.lt sa3738)
      have ne3740 : b3262 ≠ ta3738 := Nat.ne_of_lt (Nat.lt_of_lt_of_le f3702.lt sa3738)
      have ne3741 : b3288 ≠ ta3738 := Nat.ne_of_lt (Nat.lt_of_lt_of_le f3703.lt sa3738)
      have ne3742 : b3307 ≠ ta3738 := Nat.ne_of_lt (Nat.lt_of_lt_of_le f3705.lt sa3738)
      have ne3743 : y3352 ≠ ta3738 := Nat.ne_of_lt (Nat.lt_of_lt_of_le f3708.lt sa3738)
      have ne3744 : b3380 ≠ ta3738 := Nat.ne_of_lt (Nat.lt_of_lt_of_le f3709.lt sa3738)
      have ne3745 : b3413 ≠ ta3738 := Nat.ne_of_lt (Nat.lt_of_lt_of_le f3711.lt sa3738)
      have ne3746 : b3516 ≠ ta3738 := Nat.ne_of_lt (Nat.lt_of_lt_of_le f3717.lt sa3738)
      have ne3747 : b3595 ≠ ta3738 := Nat.ne_of_lt (Nat.lt_of_lt_of_le f3721.lt sa3738)
      have ne3748 : de ≠ ta3738 := Nat.ne_of_lt (Nat.lt_of_lt_of_le f3722.lt sa3738)
      have ne3749 : es ≠ ta3738 := Nat.ne_of_lt (Nat.lt_of_lt_of_le f3723.lt sa3738)
      have ne3750 : b3682 ≠ ta3738 := Nat.ne_of_lt (Nat.lt_of_lt_of_le A3682.lt sa3738)
      have ne3751 : b3307 ≠ ta3738 := Nat.ne_of_lt (Nat.lt_of_lt_of_le ob3704.1.lt sa3738)
      have ne3752 : x3307 ≠ ta3738 := Nat.ne_of_lt (Nat.lt_of_lt_of_le ob3704.ltx sa3738)
      have ne3753 : b3413 ≠ ta3738 := Nat.ne_of_lt (Nat.lt_of_lt_of_le ob3710.1.lt sa3738)
      have ne3754 : x3413 ≠ ta3738 := Nat.ne_of_lt (Nat.lt_of_lt_of_le ob3710.ltx sa3738)
      have old3755 : h0.size ≤ ta3738 := Nat.le_trans k3732.1 sa3738
      have f3756 := f3700.keep K3738
      have f3757 := f3701.keep K3738 (ninS ne3683 nin0)
      have f3758 := f3702.keep K3738
      have f3759 := f3703.keep K3738
      have ob3761 := own_B.keep ob3704 K3738 (ninS ne3696 nin0) (ninS ne3697 nin0)
      have f3762 := f3705.keep K3738
      have f3763 := f3706.keep K3738 (ninS ne3685 nin0)
      have f3764 := f3707.keep K3738 (ninS ne3685 nin0)
      have f3765 := f3708.keep K3738
      have f3766 := f3709.keep K3738
      have ob3768 := own_B.keep ob3710 K3738 (ninS ne3698 nin0) (ninS ne3699 nin0)
      have f3769 := f3711.keep K3738
      have f3770 := f3712.keep K3738 (ninS ne3688 nin0)
      have f3771 := f3713.keep K3738 (ninS ne3688 nin0)
      have f3772 := f3714.keep K3738 (ninS ne3684 nin0)
      have f3773 := f3715.keep K3738 (ninS ne3684 nin0)
      have f3774 := f3716.keep K3738 (ninS ne3684 nin0)
      have f3775 := f3717.keep K3738
      have f3776 := f3718.keep K3738 (ninS ne3690 nin0)
      have f3777 := f3719.keep K3738 (ninS ne3690 nin0)
      have f3778 := f3720.keep K3738 (ninS ne3690 nin0)
      have f3779 := f3721.keep K3738
      have f3780 := f3729.keep K3738 (ninS ne3691 nin0)
      have f3781 := f3730.keep K3738 (ninS ne3691 nin0)
      have f3782 := f3731.keep K3738 (ninS ne3691 nin0)
      have f3783 := A3682.keep K3738
      have k3788 := k3732.trans K3738 (allS (Or.inr old3695) all0)
      have z3789 := Nat.le_trans z3733 K3738.1
      have f3790 := f3722.keep K3738 (ninS ne3692 nin0)
      have f3791 := f3723.keep K3738 (ninS ne3693 nin0)
      have f3792 := f3724.keep K3738 (ninS ne3687 nin0)
      have f3793 := Ins.keepK f3725 K3738
      have f3794 := Ins.keepK f3726 K3738
      have f3795 := Ins.keepK f3727 K3738
      have f3796 := Ins.keepK f3728 K3738
      show Go E _ (Fm E T3738 170 #[.val (.int x0), .val (.int x1), .val (.int x2), .val (.int x3), .val (.int (x3 &&& (15 : Int32))), .val (.int (((x3.toUInt32 >>> ((4 : Int32) &&& 31).toUInt32).toInt32) &&& (15 : Int32))), .val (.int (((x3.toUInt32 >>> ((8 : Int32) &&& 31).toUInt32).toInt32) &&& (15 : Int32))), .val (.int (((x3.toUInt32 >>> ((12 : Int32) &&& 31).toUInt32).toInt32) &&& (15 : Int32))), .val (.int (1 : Int32)), .val (.int (((x3.toUInt32 >>> ((17 : Int32) &&& 31).toUInt32).toInt32) &&& (1 : Int32))), .val (.int (((x3.toUInt32 >>> ((18 : Int32) &&& 31).toUInt32).toInt32) &&& (1 : Int32))), .val (.ref b3262), .val (.ref b3516), .val (.ref b3595), .unset, .unset, .unset, .unset, .unset, .unset] [(.ref b3682)])
      refine go_astore (pc' := 172) (l' := #[.val (.int x0), .val (.int x1), .val (.int x2), .val (.int x3), .val (.int (x3 &&& (15 : Int32))), .val (.int (((x3.toUInt32 >>> ((4 : Int32) &&& 31).toUInt32).toInt32) &&& (15 : Int32))), .val (.int (((x3.toUInt32 >>> ((8 : Int32) &&& 31).toUInt32).toInt32) &&& (15 : Int32))), .val (.int (((x3.toUInt32 >>> ((12 : Int32) &&& 31).toUInt32).toInt32) &&& (15 : Int32))), .val (.int (1 : Int32)), .val (.int (((x3.toUInt32 >>> ((17 : Int32) &&& 31).toUInt32).toInt32) &&& (1 : Int32))), .val (.int (((x3.toUInt32 >>> ((18 : Int32) &&& 31).toUInt32).toInt32) &&& (1 : Int32))), .val (.ref b3262), .val (.ref b3516), .val (.ref b3595), .val (.ref b3682), .unset, .unset, .unset, .unset, .unset]) W3738 d0_170 rfl rfl rfl ?_
      have hev := own_01 ((x3.toUInt32 >>> ((17 : Int32) &&& 31).toUInt32).toInt32)
      have hrm := own_01 ((x3.toUInt32 >>> ((18 : Int32) &&& 31).toUInt32).toInt32)
      generalize (((x3.toUInt32 >>> ((17 : Int32) &&& 31).toUInt32).toInt32) &&& (1 : Int32)) = ev at hev ⊢
      generalize (((x3.toUInt32 >>> ((18 : Int32) &&& 31).toUInt32).toInt32) &&& (1 : Int32)) = rm at hrm ⊢
      rcases hrm with rfl | rfl
      · -- room 0
        show Go E _ (Fm E T3738 172 #[.val (.int x0), .val (.int x1), .val (.int x2), .val (.int x3), .val (.int (x3 &&& (15 : Int32))), .val (.int (((x3.toUInt32 >>> ((4 : Int32) &&& 31).toUInt32).toInt32) &&& (15 : Int32))), .val (.int (((x3.toUInt32 >>> ((8 : Int32) &&& 31).toUInt32).toInt32) &&& (15 : Int32))), .val (.int (((x3.toUInt32 >>> ((12 : Int32) &&& 31).toUInt32).toInt32) &&& (15 : Int32))), .val (.int (1 : Int32)), .val (.int ev), .val (.int (0 : Int32)), .val (.ref b3262), .val (.ref b3516), .val (.ref b3595), .val (.ref b3682), .unset, .unset, .unset, .unset, .unset] [])
        refine go_aload (pc' := 174) W3738 d0_172 rfl rfl rfl ?_
        refine go_iload (pc' := 176) W3738 d0_174 rfl rfl ?_
        refine go_iloadN (pc' := 177) W3738 d0_176 rfl rfl ?_
        refine go_iload (pc' := 179) W3738 d0_177 rfl rfl ?_
        refine go_callV (a := b3682) (kc := K34) (argsL := [(.int ev), (.int x2), (.int (0 : Int32))]) (rest := []) (pc' := 182) W3738 (w225 hw) (w226 hw) (nf_sel W3738 (w228 hw)) (w228 hw) (w227 hw) (w123 hw) (w229 hw) f3783 (rmSu_N00 E.l Z a0 hw b3682 ev x2 ta3738 el b3288 b3307 x3307 xo b3288 x0 (own_u (x3 &&& (15 : Int32))) (own_p (x3 &&& (15 : Int32))) (own_qm (x3 &&& (15 : Int32))) es h3738 n0 z3789 f3783 g3738_1 g3738_2 etp3738 kp3738_0 f3759 f3763 f3764 ob3761 (Sta.kept Sa k3788) (Sta.kept Sx k3788) (fun q => Nat.ne_of_lt (Nat.lt_of_lt_of_le Xo.lt old3294) q.symm) (fun q => Nat.ne_of_lt (Nat.lt_of_lt_of_le Xo.lt old3294) q.symm) f3756 f3757 f3791) (by decide) pd24 rfl rfl rfl (nb rfl) (nb rfl) (nb rfl) (nb rfl) d0_179 rfl ?_
        rintro _ T3797 h3797 rfl W3797
        show Go E _ (Fm E T3797 182 #[.val (.int x0), .val (.int x1), .val (.int x2), .val (.int x3), .val (.int (x3 &&& (15 : Int32))), .val (.int (((x3.toUInt32 >>> ((4 : Int32) &&& 31).toUInt32).toInt32) &&& (15 : Int32))), .val (.int (((x3.toUInt32 >>> ((8 : Int32) &&& 31).toUInt32).toInt32) &&& (15 : Int32))), .val (.int (((x3.toUInt32 >>> ((12 : Int32) &&& 31).toUInt32).toInt32) &&& (15 : Int32))), .val (.int (1 : Int32)), .val (.int ev), .val (.int (0 : Int32)), .val (.ref b3262), .val (.ref b3516), .val (.ref b3595), .val (.ref b3682), .unset, .unset, .unset, .unset, .unset] [(.int (own_res x0 x2 0 0 (own_p (x3 &&& (15 : Int32))) (own_qm (x3 &&& (15 : Int32)))))])
        refine go_istore (pc' := 184) (l' := #[.val (.int x0), .val (.int x1), .val (.int x2), .val (.int x3), .val (.int (x3 &&& (15 : Int32))), .val (.int (((x3.toUInt32 >>> ((4 : Int32) &&& 31).toUInt32).toInt32) &&& (15 : Int32))), .val (.int (((x3.toUInt32 >>> ((8 : Int32) &&& 31).toUInt32).toInt32) &&& (15 : Int32))), .val (.int (((x3.toUInt32 >>> ((12 : Int32) &&& 31).toUInt32).toInt32) &&& (15 : Int32))), .val (.int (1 : Int32)), .val (.int ev), .val (.int (0 : Int32)), .val (.ref b3262), .val (.ref b3516), .val (.ref b3595), .val (.ref b3682), .val (.int (own_res x0 x2 0 0 (own_p (x3 &&& (15 : Int32))) (own_qm (x3 &&& (15 : Int32))))), .unset, .unset, .unset, .unset]) W3797 d0_182 rfl rfl ?_
        refine go_iload (pc' := 186) W3797 d0_184 rfl rfl ?_
        refine go_if_ne (pt := 193) (pf := 189) W3797 d0_186 (by decide) rfl rfl (fun c186_3798 => ?_) (fun c186_3798 => ?_)
        · exact absurd c186_3798 (by decide)
        · -- pc 186 not taken
          refine go_iloadN (pc' := 190) W3797 d0_189 rfl rfl ?_
          refine go_goto (pc' := 194) W3797 d0_190 (by decide) rfl ?_
          refine go_istore (pc' := 196) (l' := #[.val (.int x0), .val (.int x1), .val (.int x2), .val (.int x3), .val (.int (x3 &&& (15 : Int32))), .val (.int (((x3.toUInt32 >>> ((4 : Int32) &&& 31).toUInt32).toInt32) &&& (15 : Int32))), .val (.int (((x3.toUInt32 >>> ((8 : Int32) &&& 31).toUInt32).toInt32) &&& (15 : Int32))), .val (.int (((x3.toUInt32 >>> ((12 : Int32) &&& 31).toUInt32).toInt32) &&& (15 : Int32))), .val (.int (1 : Int32)), .val (.int ev), .val (.int (0 : Int32)), .val (.ref b3262), .val (.ref b3516), .val (.ref b3595), .val (.ref b3682), .val (.int (own_res x0 x2 0 0 (own_p (x3 &&& (15 : Int32))) (own_qm (x3 &&& (15 : Int32))))), .val (.int x0), .unset, .unset, .unset]) W3797 d0_194 rfl rfl ?_
          refine go_iload (pc' := 198) W3797 d0_196 rfl rfl ?_
          refine go_if_ne (pt := 206) (pf := 201) W3797 d0_198 (by decide) rfl rfl (fun c198_3799 => ?_) (fun c198_3799 => ?_)
          · exact absurd c198_3799 (by decide)
          · -- pc 198 not taken
            refine go_iload (pc' := 203) W3797 d0_201 rfl rfl ?_
            refine go_goto (pc' := 208) W3797 d0_203 (by decide) rfl ?_
            refine go_istore (pc' := 210) (l' := #[.val (.int x0), .val (.int x1), .val (.int x2), .val (.int x3), .val (.int (x3 &&& (15 : Int32))), .val (.int (((x3.toUInt32 >>> ((4 : Int32) &&& 31).toUInt32).toInt32) &&& (15 : Int32))), .val (.int (((x3.toUInt32 >>> ((8 : Int32) &&& 31).toUInt32).toInt32) &&& (15 : Int32))), .val (.int (((x3.toUInt32 >>> ((12 : Int32) &&& 31).toUInt32).toInt32) &&& (15 : Int32))), .val (.int (1 : Int32)), .val (.int ev), .val (.int (0 : Int32)), .val (.ref b3262), .val (.ref b3516), .val (.ref b3595), .val (.ref b3682), .val (.int (own_res x0 x2 0 0 (own_p (x3 &&& (15 : Int32))) (own_qm (x3 &&& (15 : Int32))))), .val (.int x0), .val (.int (x3 &&& (15 : Int32))), .unset, .unset]) W3797 d0_208 rfl rfl ?_
            refine go_iload (pc' := 212) W3797 d0_210 rfl rfl ?_
            refine go_if_eq (pt := 219) (pf := 215) W3797 d0_212 (by decide) rfl rfl (fun c212_3800 => ?_) (fun c212_3800 => ?_)
            · exact absurd c212_3800 (by decide)
            · -- pc 212 not taken
              refine go_iconst (pc' := 216) (z := 0) W3797 d0_215 rfl rfl ?_
              refine go_goto (pc' := 231) W3797 d0_216 (by decide) rfl ?_
              refine go_istore (pc' := 233) (l' := #[.val (.int x0), .val (.int x1), .val (.int x2), .val (.int x3), .val (.int (x3 &&& (15 : Int32))), .val (.int (((x3.toUInt32 >>> ((4 : Int32) &&& 31).toUInt32).toInt32) &&& (15 : Int32))), .val (.int (((x3.toUInt32 >>> ((8 : Int32) &&& 31).toUInt32).toInt32) &&& (15 : Int32))), .val (.int (((x3.toUInt32 >>> ((12 : Int32) &&& 31).toUInt32).toInt32) &&& (15 : Int32))), .val (.int (1 : Int32)), .val (.int ev), .val (.int (0 : Int32)), .val (.ref b3262), .val (.ref b3516), .val (.ref b3595), .val (.ref b3682), .val (.int (own_res x0 x2 0 0 (own_p (x3 &&& (15 : Int32))) (own_qm (x3 &&& (15 : Int32))))), .val (.int x0), .val (.int (x3 &&& (15 : Int32))), .val (.int (0 : Int32)), .unset]) W3797 d0_231 rfl rfl ?_
              refine go_iload (pc' := 235) W3797 d0_233 rfl rfl ?_
              refine go_iloadN (pc' := 236) W3797 d0_235 rfl rfl ?_
              refine go_icmp_lt (pt := 253) (pf := 239) W3797 d0_236 (by decide) rfl rfl (fun c236_3801 => ?_) (fun c236_3801 => ?_)
              · -- pc 236 taken
                refine go_iconst (pc' := 254) (z := 0) W3797 d0_253 rfl rfl ?_
                refine go_istore (pc' := 256) (l' := #[.val (.int x0), .val (.int x1), .val (.int x2), .val (.int x3), .val (.int (x3 &&& (15 : Int32))), .val (.int (((x3.toUInt32 >>> ((4 : Int32) &&& 31).toUInt32).toInt32) &&& (15 : Int32))), .val (.int (((x3.toUInt32 >>> ((8 : Int32) &&& 31).toUInt32).toInt32) &&& (15 : Int32))), .val (.int (((x3.toUInt32 >>> ((12 : Int32) &&& 31).toUInt32).toInt32) &&& (15 : Int32))), .val (.int (1 : Int32)), .val (.int ev), .val (.int (0 : Int32)), .val (.ref b3262), .val (.ref b3516), .val (.ref b3595), .val (.ref b3682), .val (.int (own_res x0 x2 0 0 (own_p (x3 &&& (15 : Int32))) (own_qm (x3 &&& (15 : Int32))))), .val (.int x0), .val (.int (x3 &&& (15 : Int32))), .val (.int (0 : Int32)), .val (.int (0 : Int32))]) W3797 d0_254 rfl rfl ?_
                refine go_iload (pc' := 258) W3797 d0_256 rfl rfl ?_
                refine go_iload (pc' := 260) W3797 d0_258 rfl rfl ?_
                refine go_icmp_ne (pt := 267) (pf := 263) W3797 d0_260 (by decide) rfl rfl (fun c260_3802 => ?_) (fun c260_3802 => ?_)
                · exact absurd (own_r1 _ _ _ _ c236_3801).symm c260_3802
                · -- pc 260 not taken
                  refine go_iconst (pc' := 264) (z := 1) W3797 d0_263 rfl rfl ?_
                  refine go_goto (pc' := 268) W3797 d0_264 (by decide) rfl ?_
                  exact go_retI W3797 (t := .boolean) rfl (by simp) rfl d0_268 (nb rfl) (nb rfl) (rfl)
              · -- pc 236 not taken
                refine go_iload (pc' := 241) W3797 d0_239 rfl rfl ?_
                refine go_iload (pc' := 243) W3797 d0_241 rfl rfl ?_
                refine go_iconst (pc' := 244) (z := -1) W3797 d0_243 rfl rfl ?_
                refine go_ixor (pc' := 245) W3797 d0_244 rfl ?_
                refine go_iand (pc' := 246) W3797 d0_245 rfl ?_
                refine go_if_ne (pt := 253) (pf := 249) W3797 d0_246 (by decide) rfl rfl (fun c246_3803 => ?_) (fun c246_3803 => ?_)
                · exact absurd (by simp) c246_3803
                · -- pc 246 not taken
                  refine go_iconst (pc' := 250) (z := 1) W3797 d0_249 rfl rfl ?_
                  refine go_goto (pc' := 254) W3797 d0_250 (by decide) rfl ?_
                  refine go_istore (pc' := 256) (l' := #[.val (.int x0), .val (.int x1), .val (.int x2), .val (.int x3), .val (.int (x3 &&& (15 : Int32))), .val (.int (((x3.toUInt32 >>> ((4 : Int32) &&& 31).toUInt32).toInt32) &&& (15 : Int32))), .val (.int (((x3.toUInt32 >>> ((8 : Int32) &&& 31).toUInt32).toInt32) &&& (15 : Int32))), .val (.int (((x3.toUInt32 >>> ((12 : Int32) &&& 31).toUInt32).toInt32) &&& (15 : Int32))), .val (.int (1 : Int32)), .val (.int ev), .val (.int (0 : Int32)), .val (.ref b3262), .val (.ref b3516), .val (.ref b3595), .val (.ref b3682), .val (.int (own_res x0 x2 0 0 (own_p (x3 &&& (15 : Int32))) (own_qm (x3 &&& (15 : Int32))))), .val (.int x0), .val (.int (x3 &&& (15 : Int32))), .val (.int (0 : Int32)), .val (.int (1 : Int32))]) W3797 d0_254 rfl rfl ?_
                  refine go_iload (pc' := 258) W3797 d0_256 rfl rfl ?_
                  refine go_iload (pc' := 260) W3797 d0_258 rfl rfl ?_
                  refine go_icmp_ne (pt := 267) (pf := 263) W3797 d0_260 (by decide) rfl rfl (fun c260_3804 => ?_) (fun c260_3804 => ?_)
                  · exact absurd (own_r3 (r := 0) c236_3801 (by simp [own_an0]) (by decide)).symm c260_3804
                  · -- pc 260 not taken
                    refine go_iconst (pc' := 264) (z := 1) W3797 d0_263 rfl rfl ?_
                    refine go_goto (pc' := 268) W3797 d0_264 (by decide) rfl ?_
                    exact go_retI W3797 (t := .boolean) rfl (by simp) rfl d0_268 (nb rfl) (nb rfl) (rfl)
      · -- room 1
        show Go E _ (Fm E T3738 172 #[.val (.int x0), .val (.int x1), .val (.int x2), .val (.int x3), .val (.int (x3 &&& (15 : Int32))), .val (.int (((x3.toUInt32 >>> ((4 : Int32) &&& 31).toUInt32).toInt32) &&& (15 : Int32))), .val (.int (((x3.toUInt32 >>> ((8 : Int32) &&& 31).toUInt32).toInt32) &&& (15 : Int32))), .val (.int (((x3.toUInt32 >>> ((12 : Int32) &&& 31).toUInt32).toInt32) &&& (15 : Int32))), .val (.int (1 : Int32)), .val (.int ev), .val (.int (1 : Int32)), .val (.ref b3262), .val (.ref b3516), .val (.ref b3595), .val (.ref b3682), .unset, .unset, .unset, .unset, .unset] [])
        refine go_aload (pc' := 174) W3738 d0_172 rfl rfl rfl ?_
        refine go_iload (pc' := 176) W3738 d0_174 rfl rfl ?_
        refine go_iloadN (pc' := 177) W3738 d0_176 rfl rfl ?_
        refine go_iload (pc' := 179) W3738 d0_177 rfl rfl ?_
        refine go_callV (a := b3682) (kc := K34) (argsL := [(.int ev), (.int x2), (.int (1 : Int32))]) (rest := []) (pc' := 182) W3738 (w225 hw) (w226 hw) (nf_sel W3738 (w228 hw)) (w228 hw) (w227 hw) (w123 hw) (w229 hw) f3783 (rmSu_N01 E.l Z a0 hw b3682 ev x2 ta3738 el b3380 b3413 x3413 xo b3380 x1 (own_u (((x3.toUInt32 >>> ((4 : Int32) &&& 31).toUInt32).toInt32) &&& (15 : Int32))) (own_p (((x3.toUInt32 >>> ((4 : Int32) &&& 31).toUInt32).toInt32) &&& (15 : Int32))) (own_qm (((x3.toUInt32 >>> ((4 : Int32) &&& 31).toUInt32).toInt32) &&& (15 : Int32))) es h3738 n0 z3789 f3783 g3738_1 g3738_2 etp3738 kp3738_1 f3766 f3770 f3771 ob3768 (Sta.kept Sa k3788) (Sta.kept Sx k3788) (fun q => Nat.ne_of_lt (Nat.lt_of_lt_of_le Xo.lt old3389) q.symm) (fun q => Nat.ne_of_lt (Nat.lt_of_lt_of_le Xo.lt old3389) q.symm) f3756 f3757 f3791) (by decide) pd24 rfl rfl rfl (nb rfl) (nb rfl) (nb rfl) (nb rfl) d0_179 rfl ?_
        rintro _ T3805 h3805 rfl W3805
        show Go E _ (Fm E T3805 182 #[.val (.int x0), .val (.int x1), .val (.int x2), .val (.int x3), .val (.int (x3 &&& (15 : Int32))), .val (.int (((x3.toUInt32 >>> ((4 : Int32) &&& 31).toUInt32).toInt32) &&& (15 : Int32))), .val (.int (((x3.toUInt32 >>> ((8 : Int32) &&& 31).toUInt32).toInt32) &&& (15 : Int32))), .val (.int (((x3.toUInt32 >>> ((12 : Int32) &&& 31).toUInt32).toInt32) &&& (15 : Int32))), .val (.int (1 : Int32)), .val (.int ev), .val (.int (1 : Int32)), .val (.ref b3262), .val (.ref b3516), .val (.ref b3595), .val (.ref b3682), .unset, .unset, .unset, .unset, .unset] [(.int (own_res x1 x2 0 0 (own_p (((x3.toUInt32 >>> ((4 : Int32) &&& 31).toUInt32).toInt32) &&& (15 : Int32))) (own_qm (((x3.toUInt32 >>> ((4 : Int32) &&& 31).toUInt32).toInt32) &&& (15 : Int32)))))])
        refine go_istore (pc' := 184) (l' := #[.val (.int x0), .val (.int x1), .val (.int x2), .val (.int x3), .val (.int (x3 &&& (15 : Int32))), .val (.int (((x3.toUInt32 >>> ((4 : Int32) &&& 31).toUInt32).toInt32) &&& (15 : Int32))), .val (.int (((x3.toUInt32 >>> ((8 : Int32) &&& 31).toUInt32).toInt32) &&& (15 : Int32))), .val (.int (((x3.toUInt32 >>> ((12 : Int32) &&& 31).toUInt32).toInt32) &&& (15 : Int32))), .val (.int (1 : Int32)), .val (.int ev), .val (.int (1 : Int32)), .val (.ref b3262), .val (.ref b3516), .val (.ref b3595), .val (.ref b3682), .val (.int (own_res x1 x2 0 0 (own_p (((x3.toUInt32 >>> ((4 : Int32) &&& 31).toUInt32).toInt32) &&& (15 : Int32))) (own_qm (((x3.toUInt32 >>> ((4 : Int32) &&& 31).toUInt32).toInt32) &&& (15 : Int32))))), .unset, .unset, .unset, .unset]) W3805 d0_182 rfl rfl ?_
        refine go_iload (pc' := 186) W3805 d0_184 rfl rfl ?_
        refine go_if_ne (pt := 193) (pf := 189) W3805 d0_186 (by decide) rfl rfl (fun c186_3806 => ?_) (fun c186_3806 => ?_)
        · -- pc 186 taken
          refine go_iloadN (pc' := 194) W3805 d0_193 rfl rfl ?_
          refine go_istore (pc' := 196) (l' := #[.val (.int x0), .val (.int x1), .val (.int x2), .val (.int x3), .val (.int (x3 &&& (15 : Int32))), .val (.int (((x3.toUInt32 >>> ((4 : Int32) &&& 31).toUInt32).toInt32) &&& (15 : Int32))), .val (.int (((x3.toUInt32 >>> ((8 : Int32) &&& 31).toUInt32).toInt32) &&& (15 : Int32))), .val (.int (((x3.toUInt32 >>> ((12 : Int32) &&& 31).toUInt32).toInt32) &&& (15 : Int32))), .val (.int (1 : Int32)), .val (.int ev), .val (.int (1 : Int32)), .val (.ref b3262), .val (.ref b3516), .val (.ref b3595), .val (.ref b3682), .val (.int (own_res x1 x2 0 0 (own_p (((x3.toUInt32 >>> ((4 : Int32) &&& 31).toUInt32).toInt32) &&& (15 : Int32))) (own_qm (((x3.toUInt32 >>> ((4 : Int32) &&& 31).toUInt32).toInt32) &&& (15 : Int32))))), .val (.int x1), .unset, .unset, .unset]) W3805 d0_194 rfl rfl ?_
          refine go_iload (pc' := 198) W3805 d0_196 rfl rfl ?_
          refine go_if_ne (pt := 206) (pf := 201) W3805 d0_198 (by decide) rfl rfl (fun c198_3807 => ?_) (fun c198_3807 => ?_)
          · -- pc 198 taken
            refine go_iload (pc' := 208) W3805 d0_206 rfl rfl ?_
            refine go_istore (pc' := 210) (l' := #[.val (.int x0), .val (.int x1), .val (.int x2), .val (.int x3), .val (.int (x3 &&& (15 : Int32))), .val (.int (((x3.toUInt32 >>> ((4 : Int32) &&& 31).toUInt32).toInt32) &&& (15 : Int32))), .val (.int (((x3.toUInt32 >>> ((8 : Int32) &&& 31).toUInt32).toInt32) &&& (15 : Int32))), .val (.int (((x3.toUInt32 >>> ((12 : Int32) &&& 31).toUInt32).toInt32) &&& (15 : Int32))), .val (.int (1 : Int32)), .val (.int ev), .val (.int (1 : Int32)), .val (.ref b3262), .val (.ref b3516), .val (.ref b3595), .val (.ref b3682), .val (.int (own_res x1 x2 0 0 (own_p (((x3.toUInt32 >>> ((4 : Int32) &&& 31).toUInt32).toInt32) &&& (15 : Int32))) (own_qm (((x3.toUInt32 >>> ((4 : Int32) &&& 31).toUInt32).toInt32) &&& (15 : Int32))))), .val (.int x1), .val (.int (((x3.toUInt32 >>> ((4 : Int32) &&& 31).toUInt32).toInt32) &&& (15 : Int32))), .unset, .unset]) W3805 d0_208 rfl rfl ?_
            refine go_iload (pc' := 212) W3805 d0_210 rfl rfl ?_
            refine go_if_eq (pt := 219) (pf := 215) W3805 d0_212 (by decide) rfl rfl (fun c212_3808 => ?_) (fun c212_3808 => ?_)
            · exact absurd c212_3808 (by decide)
            · -- pc 212 not taken
              refine go_iconst (pc' := 216) (z := 0) W3805 d0_215 rfl rfl ?_
              refine go_goto (pc' := 231) W3805 d0_216 (by decide) rfl ?_
              refine go_istore (pc' := 233) (l' := #[.val (.int x0), .val (.int x1), .val (.int x2), .val (.int x3), .val (.int (x3 &&& (15 : Int32))), .val (.int (((x3.toUInt32 >>> ((4 : Int32) &&& 31).toUInt32).toInt32) &&& (15 : Int32))), .val (.int (((x3.toUInt32 >>> ((8 : Int32) &&& 31).toUInt32).toInt32) &&& (15 : Int32))), .val (.int (((x3.toUInt32 >>> ((12 : Int32) &&& 31).toUInt32).toInt32) &&& (15 : Int32))), .val (.int (1 : Int32)), .val (.int ev), .val (.int (1 : Int32)), .val (.ref b3262), .val (.ref b3516), .val (.ref b3595), .val (.ref b3682), .val (.int (own_res x1 x2 0 0 (own_p (((x3.toUInt32 >>> ((4 : Int32) &&& 31).toUInt32).toInt32) &&& (15 : Int32))) (own_qm (((x3.toUInt32 >>> ((4 : Int32) &&& 31).toUInt32).toInt32) &&& (15 : Int32))))), .val (.int x1), .val (.int (((x3.toUInt32 >>> ((4 : Int32) &&& 31).toUInt32).toInt32) &&& (15 : Int32))), .val (.int (0 : Int32)), .unset]) W3805 d0_231 rfl rfl ?_
              refine go_iload (pc' := 235) W3805 d0_233 rfl rfl ?_
              refine go_iloadN (pc' := 236) W3805 d0_235 rfl rfl ?_
              refine go_icmp_lt (pt := 253) (pf := 239) W3805 d0_236 (by decide) rfl rfl (fun c236_3809 => ?_) (fun c236_3809 => ?_)
              · -- pc 236 taken
                refine go_iconst (pc' := 254) (z := 0) W3805 d0_253 rfl rfl ?_
                refine go_istore (pc' := 256) (l' := #[.val (.int x0), .val (.int x1), .val (.int x2), .val (.int x3), .val (.int (x3 &&& (15 : Int32))), .val (.int (((x3.toUInt32 >>> ((4 : Int32) &&& 31).toUInt32).toInt32) &&& (15 : Int32))), .val (.int (((x3.toUInt32 >>> ((8 : Int32) &&& 31).toUInt32).toInt32) &&& (15 : Int32))), .val (.int (((x3.toUInt32 >>> ((12 : Int32) &&& 31).toUInt32).toInt32) &&& (15 : Int32))), .val (.int (1 : Int32)), .val (.int ev), .val (.int (1 : Int32)), .val (.ref b3262), .val (.ref b3516), .val (.ref b3595), .val (.ref b3682), .val (.int (own_res x1 x2 0 0 (own_p (((x3.toUInt32 >>> ((4 : Int32) &&& 31).toUInt32).toInt32) &&& (15 : Int32))) (own_qm (((x3.toUInt32 >>> ((4 : Int32) &&& 31).toUInt32).toInt32) &&& (15 : Int32))))), .val (.int x1), .val (.int (((x3.toUInt32 >>> ((4 : Int32) &&& 31).toUInt32).toInt32) &&& (15 : Int32))), .val (.int (0 : Int32)), .val (.int (0 : Int32))]) W3805 d0_254 rfl rfl ?_
                refine go_iload (pc' := 258) W3805 d0_256 rfl rfl ?_
                refine go_iload (pc' := 260) W3805 d0_258 rfl rfl ?_
                refine go_icmp_ne (pt := 267) (pf := 263) W3805 d0_260 (by decide) rfl rfl (fun c260_3810 => ?_) (fun c260_3810 => ?_)
                · exact absurd (own_r1 _ _ _ _ c236_3809).symm c260_3810
                · -- pc 260 not taken
                  refine go_iconst (pc' := 264) (z := 1) W3805 d0_263 rfl rfl ?_
                  refine go_goto (pc' := 268) W3805 d0_264 (by decide) rfl ?_
                  exact go_retI W3805 (t := .boolean) rfl (by simp) rfl d0_268 (nb rfl) (nb rfl) (rfl)
              · -- pc 236 not taken
                refine go_iload (pc' := 241) W3805 d0_239 rfl rfl ?_
                refine go_iload (pc' := 243) W3805 d0_241 rfl rfl ?_
                refine go_iconst (pc' := 244) (z := -1) W3805 d0_243 rfl rfl ?_
                refine go_ixor (pc' := 245) W3805 d0_244 rfl ?_
                refine go_iand (pc' := 246) W3805 d0_245 rfl ?_
                refine go_if_ne (pt := 253) (pf := 249) W3805 d0_246 (by decide) rfl rfl (fun c246_3811 => ?_) (fun c246_3811 => ?_)
                · exact absurd (by simp) c246_3811
                · -- pc 246 not taken
                  refine go_iconst (pc' := 250) (z := 1) W3805 d0_249 rfl rfl ?_
                  refine go_goto (pc' := 254) W3805 d0_250 (by decide) rfl ?_
                  refine go_istore (pc' := 256) (l' := #[.val (.int x0), .val (.int x1), .val (.int x2), .val (.int x3), .val (.int (x3 &&& (15 : Int32))), .val (.int (((x3.toUInt32 >>> ((4 : Int32) &&& 31).toUInt32).toInt32) &&& (15 : Int32))), .val (.int (((x3.toUInt32 >>> ((8 : Int32) &&& 31).toUInt32).toInt32) &&& (15 : Int32))), .val (.int (((x3.toUInt32 >>> ((12 : Int32) &&& 31).toUInt32).toInt32) &&& (15 : Int32))), .val (.int (1 : Int32)), .val (.int ev), .val (.int (1 : Int32)), .val (.ref b3262), .val (.ref b3516), .val (.ref b3595), .val (.ref b3682), .val (.int (own_res x1 x2 0 0 (own_p (((x3.toUInt32 >>> ((4 : Int32) &&& 31).toUInt32).toInt32) &&& (15 : Int32))) (own_qm (((x3.toUInt32 >>> ((4 : Int32) &&& 31).toUInt32).toInt32) &&& (15 : Int32))))), .val (.int x1), .val (.int (((x3.toUInt32 >>> ((4 : Int32) &&& 31).toUInt32).toInt32) &&& (15 : Int32))), .val (.int (0 : Int32)), .val (.int (1 : Int32))]) W3805 d0_254 rfl rfl ?_
                  refine go_iload (pc' := 258) W3805 d0_256 rfl rfl ?_
                  refine go_iload (pc' := 260) W3805 d0_258 rfl rfl ?_
                  refine go_icmp_ne (pt := 267) (pf := 263) W3805 d0_260 (by decide) rfl rfl (fun c260_3812 => ?_) (fun c260_3812 => ?_)
                  · exact absurd (own_r3 (r := 0) c236_3809 (by simp [own_an0]) (by decide)).symm c260_3812
                  · -- pc 260 not taken
                    refine go_iconst (pc' := 264) (z := 1) W3805 d0_263 rfl rfl ?_
                    refine go_goto (pc' := 268) W3805 d0_264 (by decide) rfl ?_
                    exact go_retI W3805 (t := .boolean) rfl (by simp) rfl d0_268 (nb rfl) (nb rfl) (rfl)
          · exact absurd c198_3807 (by decide)
        · exact absurd c186_3806 (by decide)
    · exact absurd c122_3594 (by decide)
theorem own_len31 {args : Array Value} {s : State} {t : Term} {a : Addr} {cell : Cell} {v : Value} (ht : t.eval args s none [] s = some (.ref a)) (hc : s.arrayAt? a = some cell) (h : (Term.length t).eval args s none [] s = some v) : cell.slots.size < 2 ^ 31 := by
  by_cases q : cell.slots.size < 2 ^ 31
  · exact q
  · simp [Term.eval, ht, hc, q] at h
theorem own_af0 {args : Array Value} {s : State} {t : Term} {a : Addr} {cl : Cell} {ty : FieldType} (ea : t.eval args s none [] s = some (.ref a)) (Ar : Arr s s.heap a cl ty) (hlen : (Term.length t).eval args s none [] s = some (.int 0)) : Af s s.heap a ty 0 (fun _ => .null) := by
  have h31 := own_len31 ea (Ar.fin (Vm.Alike.refl _)) hlen
  refine ⟨cl, Ar, ?_, fun i hi => absurd hi (Nat.not_lt_zero _)⟩
  have e := (len_f ea (Ar.fin (Vm.Alike.refl _)) h31).symm.trans hlen
  have e2 := congrArg Int32.toInt (Value.int.inj (Option.some.inj e))
  rw [len_toInt h31] at e2
  have : (0 : Int32).toInt = 0 := by decide
  omega
set_option maxRecDepth 65536 in
theorem comes_1 {Post : Tables → Env → Array Value → State → Outcome → State → Prop} (hpost : ∀ tb e args s v u, (limb_1_1.after args s (.returned v) u = true ∧ limb_1_2.after args s (.returned v) u = true) → FrameEnd s (.returned v) u (Jvm.fieldLocs frame_1_writes args s ++ Jvm.arrayLocs frame_1_arrays args s ++ Jvm.staticLocs frame_1_statics s) 64 256 → Post tb e args s (.returned v) u) :
    ArmFor flags0 classFile x code maxLocals ret World_1 tables_1 room_1 Calls_1 rest_1 Pre_1 Post := by
  intro l hfl _ _ p e ha hc hk s m args below hf hA hF happ hP
  obtain ⟨hcalls, hrest, hpre⟩ := hP
  obtain ⟨-, -, -, hnamed, -, -, -, hat⟩ := (Spec.applies_iff hf).mp happ
  obtain ⟨hg, hn⟩ := and_e (Cond.before_iff.mp (show (Jvm.Cond.and given_1 narrow_1).before args s = true from hpre))
  obtain ⟨hct, g0⟩ := and_e hg
  obtain ⟨a0, g1⟩ := and_e g0
  obtain ⟨a1, g2⟩ := and_e g1
  obtain ⟨a2, g3⟩ := and_e g2
  obtain ⟨v0, v1, v2, v3, rfl⟩ : ∃ v0 v1 v2 v3 : Value, args = #[v0, v1, v2, v3] := by
    have hs : args.size = 4 := by simpa [Cond.value, given_1] using hct
    obtain ⟨L⟩ := args
    match L, hs with
    | [v0, v1, v2, v3], _ => exact ⟨v0, v1, v2, v3, rfl⟩
  have hw := fun d (hd : d ∈ tables_1) => atoms_spec (ws := Jvm.Cond.code x code maxLocals ret :: tables_1) hat d (List.mem_cons_of_mem _ hd)
  have hfit : Fit s := fun {y c} hc i hi => by
    obtain ⟨ha, rfl⟩ := Array.getElem?_eq_some_iff.mp hc
    have q := List.all_eq_true.mp ((Array.all_eq_true_iff_forall_mem.mp hF) _ (Array.getElem_mem ha)) i (List.mem_range.mpr hi)
    simpa [Array.getElem?_eq_getElem hi] using q
  obtain ⟨hsets, hown0⟩ := atoms_of _ (rest_1_c_eq ▸ (show rest_1_c.before _ s = true from hrest))
  have hr0 := Cond.before_iff.mp hown0
  obtain ⟨i0, ei0⟩ := is_v a0
  obtain rfl : v0 = (.int i0) := Option.some.inj ei0
  obtain ⟨i1, ei1⟩ := is_v a1
  obtain rfl : v1 = (.int i1) := Option.some.inj ei1
  obtain ⟨i2, ei2⟩ := is_v a2
  obtain rfl : v2 = (.int i2) := Option.some.inj ei2
  obtain ⟨i3, ei3⟩ := is_v g3
  obtain rfl : v3 = (.int i3) := Option.some.inj ei3
  have s0 := fun i (w : Jvm.Cond) (h : jdkStatics_1[i]? = some w) => hsets w (List.mem_of_getElem? h)
  have q6 := Cond.before_iff.mp (s0 6 _ rfl)
  obtain ⟨de, ed⟩ := arr_v q6
  obtain ⟨cd, Ard⟩ := Arr.start ed q6
  have Sd := Sta.start ed (Or.inr ⟨(w2 hw), s0 2 _ rfl⟩)
  have Ad := own_af0 ed Ard (eqv_i (Term.int_eval _) (Cond.before_iff.mp (s0 8 _ rfl)))
  have Sa := Sta.start (eqv_i (Term.int_eval _) (Cond.before_iff.mp (s0 11 _ rfl))) (Or.inl (s0 10 _ rfl))
  have q14 := Cond.before_iff.mp (s0 14 _ rfl)
  obtain ⟨el, ee⟩ := exa_v q14
  have Sl := Sta.start ee (Or.inl (s0 13 _ rfl))
  have Xl := exa_at ee q14
  have q15 := Cond.before_iff.mp (s0 15 _ rfl)
  obtain ⟨es, ees⟩ := arr_v q15
  obtain ⟨ce, Are⟩ := Arr.start ees q15
  have Fl := Fld.start ((fld_at ee).symm.trans ees)
  have As := own_af0 ees Are (eqv_i (Term.int_eval _) (Cond.before_iff.mp (s0 17 _ rfl)))
  have q21 := Cond.before_iff.mp (s0 21 _ rfl)
  obtain ⟨xo, ex⟩ := exa_v q21
  have Sx := Sta.start ex (Or.inl (s0 20 _ rfl))
  have Xo := exa_at ex q21
  obtain ⟨cm, km, mr, z1, z2, z3⟩ := hcalls.1
  have Mr : Mm s OA mr := ⟨cm, km, z1, z2, z3.1⟩
  obtain ⟨n, o, h1, h2, h3, _, L, rfl, ⟨rfl, N⟩, hq⟩ := rm0 l s _ hw i0 i1 i2 i3 de el es xo mr s.heap s.heap.size (Nat.le_refl _) Sd Sa Sl Sx Ad Xl Fl As Xo Mr tables_1 p e ha hc hk s m _ below hf ((Spec.applies_iff_loose hf).mp happ).1 ⟨rfl, State.Warmed39.refl s, rfl⟩ trivial
  exact ⟨n, _, h1, h2, h3, hpost _ _ _ _ _ _ ⟨Cond.after_iff.mpr rfl, Cond.after_iff.mpr (eq_i res_at (Term.int_eval (1)) rfl)⟩ ⟨hq.1, hq.2.1, (hq.2.2.sift fun y hy => Or.inr (N y hy)).mono (by decide) (by decide)⟩⟩
theorem main_1_1 : Claimed_1_1 := comes_1 fun _ _ _ _ _ _ h hF => ⟨h.1, hF⟩
theorem main_1_2 : Claimed_1_2 := comes_1 fun _ _ _ _ _ _ h hF => ⟨h.2, hF⟩
end Jvm.Pilot.@@N@@
namespace Jvm.Pilot.@@N@@
open Jvm Jvm.ClassFile Sem Op Lib Jvm.Free Jvm.Stand Jvm.Pilot.@@N@@.Jvm.D
/-! MADE BY PROGRAM (witnessworld.py) out of the Statement's table words and the real class files: 33 classes; the members and pool entries that the words name. The judged class is class 1, her method 2. -/
namespace start1
open Jvm.ClassFile
def u (s : String) : CpInfo := .utf8 (stringToUtf16 s)
/-- a pool by its gaps: so many unusable entries, then the entry; so many at the end -/
def gap : Nat → List CpInfo → List CpInfo
  | 0, r => r
  | n + 1, r => .unusable :: gap n r
def poolList (es : List (Nat × CpInfo)) (last : Nat) : List CpInfo := es.foldr (fun e r => gap e.1 (e.2 :: r)) (gap last [])
def pool (es : List (Nat × CpInfo)) (last : Nat) : Array CpInfo := ⟨poolList es last⟩
def fileOf (pool : Array CpInfo) (this : Nat) (attrs : Array Attribute := #[]) (ms : Array MethodInfo := #[]) (fl : Nat := 33) (sup : Nat := 0) (ifs : Array Nat := #[]) (fds : Array FieldInfo := #[]) : ClassFile where
  minorVersion := 0
  majorVersion := 65
  constantPool := pool
  accessFlags := fl
  thisClass := this
  superClass := sup
  interfaces := ifs
  fields := fds
  methods := ms
  attributes := attrs
def plain (name : String) (sup : Option ClassId) : Class where
  name := name
  kind := .ordinary
  loader := none
  accessFlags := 33
  super := sup
  interfaces := #[]
  cf := none
  fields := #[]
  methods := #[]
  instanceTypes := #[]
  staticTypes := #[]
  resolved := #[]
  callSites := []
  init := .initialized
  statics := none
  mirror := none

def pool0 : Array CpInfo := pool [(5, u "<init>"), (0, u "()V"), (1, .class_ 10), (1, u "java/lang/Object"), (0, u "getClass"), (0, u "()Ljava/lang/Class;")] 111

def k0c0 : Code := { maxStack := 0, maxLocals := 1, code := object_method_1_code, exceptionTable := #[], attributes := #[] }
def k0m0 : Method := { name := "<init>", desc := "()V", sig := { parameters := [], returnType := none }, accessFlags := 1, code := some k0c0 }
def k0m1 : Method := { name := "getClass", desc := "()Ljava/lang/Class;", sig := { parameters := [], returnType := some (.object "java/lang/Class") }, accessFlags := 273, code := none }
/-- java/lang/Object -/
def k0 : Class := { plain "java/lang/Object" none with
  accessFlags := 33
  interfaces := #[]
  cf := some (fileOf pool0 8 #[] #[{ accessFlags := 1, nameIndex := 5, descriptorIndex := 6, attributes := #[] }, { accessFlags := 273, nameIndex := 11, descriptorIndex := 12, attributes := #[] }] 33 0 #[] #[])
  fields := #[]
  methods := #[k0m0, k0m1]
  instanceTypes := #[]
  staticTypes := #[]
  resolved := Array.replicate 124 none
  statics := none }

def pool1 : Array CpInfo := pool [(2, .class_ 4), (0, .nameAndType 5 6), (0, u "java/lang/Object"), (0, u "<init>"), (0, u "()V"), (0, .class_ 8), (0, u "java/util/BitSet"), (0, .methodref 7 3), (0, .methodref 7 11), (0, .nameAndType 12 13), (0, u "set"), (0, u "(I)V"), (0, .class_ 15), (0, u "java/util/ArrayList"), (0, .methodref 14 3), (0, .class_ 18), (0, u "com/example/slotwright/slotwright/EnrolmentInstance$Room"), (0, .methodref 20 21), (0, .class_ 22), (0, .nameAndType 23 24), (0, u "com/example/slotwright/slotwright/EnrolmentInstanceSuitsPinLaw"), (0, u "bits"), (0, u "(I)Ljava/util/BitSet;"), (0, .methodref 17 26), (0, .nameAndType 5 27), (0, u "(ILjava/util/BitSet;)V"), (0, .methodref 14 29), (0, .nameAndType 30 31), (0, u "add"), (0, u "(Ljava/lang/Object;)Z"), (0, .class_ 33), (0, u "com/example/slotwright/slotwright/EnrolmentInstance"), (0, .methodref 32 35), (0, .nameAndType 5 36), (0, u "(ILjava/util/List;Ljava/util/List;Ljava/util/List;)V"), (0, .methodref 32 38), (0, .nameAndType 39 40), (0, u "suits"), (0, u "(III)Z"), (3, u "law"), (0, u "(IIII)Z")] 4

def k1m0 : Method := { name := "<init>", desc := "()V", sig := { parameters := [], returnType := none }, accessFlags := 1, code := none }
def k1c1 : Code := { maxStack := 2, maxLocals := 2, code := method_2_code, exceptionTable := #[], attributes := #[] }
def k1m1 : Method := { name := "bits", desc := "(I)Ljava/util/BitSet;", sig := { parameters := [.int], returnType := some (.object "java/util/BitSet") }, accessFlags := 10, code := some k1c1 }
def k1c2 : Code := { maxStack := 6, maxLocals := 20, code := code, exceptionTable := #[], attributes := #[] }
def k1m2 : Method := { name := "law", desc := "(IIII)Z", sig := { parameters := [.int, .int, .int, .int], returnType := some .boolean }, accessFlags := 9, code := some k1c2 }
/-- com/example/slotwright/slotwright/EnrolmentInstanceSuitsPinLaw -/
def k1 : Class := { plain "com/example/slotwright/slotwright/EnrolmentInstanceSuitsPinLaw" (some 0) with
  accessFlags := 49
  interfaces := #[]
  cf := some (fileOf pool1 20 #[] #[{ accessFlags := 1, nameIndex := 5, descriptorIndex := 6, attributes := #[] }, { accessFlags := 10, nameIndex := 23, descriptorIndex := 24, attributes := #[] }, { accessFlags := 9, nameIndex := 44, descriptorIndex := 45, attributes := #[] }] 49 2 #[] #[])
  fields := #[]
  methods := #[k1m0, k1m1, k1m2]
  instanceTypes := #[]
  staticTypes := #[]
  resolved := Array.replicate 50 none
  statics := none }

def pool2 : Array CpInfo := pool [(8, .class_ 10), (1, u "java/lang/Iterable"), (24, .class_ 36), (0, u "java/lang/Object")] 25

/-- java/lang/Iterable -/
def k2 : Class := { plain "java/lang/Iterable" (some 0) with
  accessFlags := 1537
  interfaces := #[]
  cf := some (fileOf pool2 8 #[] #[] 1537 35 #[] #[])
  fields := #[]
  methods := #[]
  instanceTypes := #[]
  staticTypes := #[]
  resolved := Array.replicate 62 none
  statics := none }

def pool3 : Array CpInfo := pool [(10, .class_ 12), (1, u "java/util/Collection"), (0, u "toArray"), (16, u "()Z"), (29, .class_ 61), (0, u "java/lang/Object"), (0, .class_ 63), (0, u "java/lang/Iterable"), (2, u "isEmpty"), (3, u "()[Ljava/lang/Object;")] 44

def k3m0 : Method := { name := "isEmpty", desc := "()Z", sig := { parameters := [], returnType := some .boolean }, accessFlags := 1025, code := none }
def k3m1 : Method := { name := "toArray", desc := "()[Ljava/lang/Object;", sig := { parameters := [], returnType := some (.array (.object "java/lang/Object")) }, accessFlags := 1025, code := none }
/-- java/util/Collection -/
def k3 : Class := { plain "java/util/Collection" (some 0) with
  accessFlags := 1537
  interfaces := #[2]
  cf := some (fileOf pool3 10 #[] #[{ accessFlags := 1025, nameIndex := 66, descriptorIndex := 30, attributes := #[] }, { accessFlags := 1025, nameIndex := 13, descriptorIndex := 70, attributes := #[] }] 1537 60 #[62] #[])
  fields := #[]
  methods := #[k3m0, k3m1]
  instanceTypes := #[]
  staticTypes := #[]
  resolved := Array.replicate 115 none
  statics := none }

def pool4 : Array CpInfo := pool [(1, .methodref 2 3), (0, .class_ 4), (0, .nameAndType 5 6), (0, u "java/lang/Object"), (0, u "<init>"), (0, u "()V"), (1, .class_ 10), (1, u "java/util/AbstractCollection"), (66, .class_ 78), (0, u "java/util/Collection")] 81

def k4c0 : Code := { maxStack := 1, maxLocals := 1, code := jdk_22_method_1_code, exceptionTable := #[], attributes := #[] }
def k4m0 : Method := { name := "<init>", desc := "()V", sig := { parameters := [], returnType := none }, accessFlags := 4, code := some k4c0 }
/-- java/util/AbstractCollection -/
def k4 : Class := { plain "java/util/AbstractCollection" (some 0) with
  accessFlags := 1057
  interfaces := #[3]
  cf := some (fileOf pool4 8 #[] #[{ accessFlags := 4, nameIndex := 5, descriptorIndex := 6, attributes := #[] }] 1057 2 #[77] #[])
  fields := #[]
  methods := #[k4m0]
  instanceTypes := #[]
  staticTypes := #[]
  resolved := Array.replicate 160 none
  statics := none }

def pool5 : Array CpInfo := pool [(8, .class_ 10), (1, u "java/util/SequencedCollection"), (15, .class_ 27), (0, u "java/lang/Object"), (0, .class_ 29), (0, u "java/util/Collection")] 27

/-- java/util/SequencedCollection -/
def k5 : Class := { plain "java/util/SequencedCollection" (some 0) with
  accessFlags := 1537
  interfaces := #[3]
  cf := some (fileOf pool5 8 #[] #[] 1537 26 #[28] #[])
  fields := #[]
  methods := #[]
  instanceTypes := #[]
  staticTypes := #[]
  resolved := Array.replicate 57 none
  statics := none }

def pool6 : Array CpInfo := pool [(8, .class_ 10), (1, u "java/util/List"), (7, u "()Z"), (29, u "<init>"), (18, u "isEmpty"), (7, u "get"), (0, u "(I)Ljava/lang/Object;"), (11, u "of"), (1, .fieldref 91 92), (0, .class_ 93), (0, .nameAndType 94 95), (0, u "java/util/ImmutableCollections"), (0, u "EMPTY_LIST"), (0, u "Ljava/util/ImmutableCollections$ListN;"), (0, .class_ 97), (0, u "java/util/ImmutableCollections$List12"), (2, .methodref 96 101), (0, .nameAndType 48 102), (0, u "(Ljava/lang/Object;Ljava/lang/Object;)V"), (0, .class_ 104), (0, u "java/lang/Object"), (3, u "([Ljava/lang/Object;)Ljava/util/List;"), (3, .methodref 91 113), (0, .nameAndType 114 115), (0, u "listCopy"), (0, u "(Ljava/util/Collection;)Ljava/util/List;"), (3, u "()Ljava/util/List;"), (0, .class_ 121), (0, u "java/util/SequencedCollection"), (112, u "copyOf")] 16

def k6m0 : Method := { name := "isEmpty", desc := "()Z", sig := { parameters := [], returnType := some .boolean }, accessFlags := 1025, code := none }
def k6m1 : Method := { name := "get", desc := "(I)Ljava/lang/Object;", sig := { parameters := [.int], returnType := some (.object "java/lang/Object") }, accessFlags := 1025, code := none }
def k6c2 : Code := { maxStack := 1, maxLocals := 0, code := jdk_40_method_36_code, exceptionTable := #[], attributes := #[] }
def k6m2 : Method := { name := "of", desc := "()Ljava/util/List;", sig := { parameters := [], returnType := some (.object "java/util/List") }, accessFlags := 9, code := some k6c2 }
def k6c3 : Code := { maxStack := 5, maxLocals := 2, code := jdk_40_method_47_code, exceptionTable := #[], attributes := #[] }
def k6m3 : Method := { name := "of", desc := "([Ljava/lang/Object;)Ljava/util/List;", sig := { parameters := [(.array (.object "java/lang/Object"))], returnType := some (.object "java/util/List") }, accessFlags := 137, code := some k6c3 }
def k6c4 : Code := { maxStack := 1, maxLocals := 1, code := jdk_40_method_48_code, exceptionTable := #[], attributes := #[] }
def k6m4 : Method := { name := "copyOf", desc := "(Ljava/util/Collection;)Ljava/util/List;", sig := { parameters := [(.object "java/util/Collection")], returnType := some (.object "java/util/List") }, accessFlags := 9, code := some k6c4 }
/-- java/util/List -/
def k6 : Class := { plain "java/util/List" (some 0) with
  accessFlags := 1537
  interfaces := #[5]
  cf := some (fileOf pool6 8 #[] #[{ accessFlags := 1025, nameIndex := 67, descriptorIndex := 18, attributes := #[] }, { accessFlags := 1025, nameIndex := 75, descriptorIndex := 76, attributes := #[] }, { accessFlags := 9, nameIndex := 88, descriptorIndex := 119, attributes := #[] }, { accessFlags := 137, nameIndex := 88, descriptorIndex := 108, attributes := #[] }, { accessFlags := 9, nameIndex := 234, descriptorIndex := 115, attributes := #[] }] 1537 103 #[120] #[])
  fields := #[]
  methods := #[k6m0, k6m1, k6m2, k6m3, k6m4]
  instanceTypes := #[]
  staticTypes := #[]
  resolved := Array.replicate 251 none
  statics := none }

def pool7 : Array CpInfo := pool [(1, .methodref 2 3), (0, .class_ 4), (0, .nameAndType 5 6), (0, u "java/util/AbstractCollection"), (0, u "<init>"), (0, u "()V"), (0, .fieldref 8 9), (0, .class_ 10), (0, .nameAndType 11 12), (0, u "java/util/AbstractList"), (0, u "modCount"), (0, u "I"), (64, .class_ 78), (0, u "java/util/AbstractList$Itr"), (3, .class_ 83), (0, u "java/util/AbstractList$ListItr"), (9, .class_ 94), (0, u "java/util/AbstractList$RandomAccessSubList"), (3, .class_ 99), (0, u "java/util/AbstractList$SubList"), (33, .class_ 134), (0, u "java/util/List"), (73, .class_ 209), (0, u "java/util/AbstractList$SubList$1"), (0, .class_ 211), (0, u "java/util/AbstractList$RandomAccessSpliterator")] 6

def k7c0 : Code := { maxStack := 2, maxLocals := 1, code := jdk_39_method_1_code, exceptionTable := #[], attributes := #[] }
def k7m0 : Method := { name := "<init>", desc := "()V", sig := { parameters := [], returnType := none }, accessFlags := 4, code := some k7c0 }
/-- java/util/AbstractList -/
def k7 : Class := { plain "java/util/AbstractList" (some 4) with
  accessFlags := 1057
  interfaces := #[6]
  cf := some (fileOf pool7 8 #[.nestMembers #[93, 98, 208, 210, 82, 77]] #[{ accessFlags := 4, nameIndex := 5, descriptorIndex := 6, attributes := #[] }] 1057 2 #[133] #[{ accessFlags := 132, nameIndex := 11, descriptorIndex := 12, attributes := #[] }])
  fields := #[{ name := "modCount", type := .int, accessFlags := 132, slot := 0, constantValue := 0 }]
  methods := #[k7m0]
  instanceTypes := #[.int]
  staticTypes := #[]
  resolved := Array.replicate 218 none
  statics := none }

def pool8 : Array CpInfo := pool [(1, .class_ 2), (0, u "java/util/RandomAccess"), (0, .class_ 4), (0, u "java/lang/Object")] 2

/-- java/util/RandomAccess -/
def k8 : Class := { plain "java/util/RandomAccess" (some 0) with
  accessFlags := 1537
  interfaces := #[]
  cf := some (fileOf pool8 1 #[] #[] 1537 3 #[] #[])
  fields := #[]
  methods := #[]
  instanceTypes := #[]
  staticTypes := #[]
  resolved := Array.replicate 7 none
  statics := none }

def pool9 : Array CpInfo := pool [(1, .class_ 2), (0, u "java/lang/Cloneable"), (0, .class_ 4), (0, u "java/lang/Object")] 2

/-- java/lang/Cloneable -/
def k9 : Class := { plain "java/lang/Cloneable" (some 0) with
  accessFlags := 1537
  interfaces := #[]
  cf := some (fileOf pool9 1 #[] #[] 1537 3 #[] #[])
  fields := #[]
  methods := #[]
  instanceTypes := #[]
  staticTypes := #[]
  resolved := Array.replicate 7 none
  statics := none }

def pool10 : Array CpInfo := pool [(1, .class_ 2), (0, u "java/io/Serializable"), (0, .class_ 4), (0, u "java/lang/Object")] 2

/-- java/io/Serializable -/
def k10 : Class := { plain "java/io/Serializable" (some 0) with
  accessFlags := 1537
  interfaces := #[]
  cf := some (fileOf pool10 1 #[] #[] 1537 3 #[] #[])
  fields := #[]
  methods := #[]
  instanceTypes := #[]
  staticTypes := #[]
  resolved := Array.replicate 7 none
  statics := none }

def pool11 : Array CpInfo := pool [(1, .methodref 2 3), (0, .class_ 4), (0, .nameAndType 5 6), (0, u "java/util/AbstractList"), (0, u "<init>"), (0, u "()V"), (0, .class_ 8), (0, u "java/lang/Object"), (0, .fieldref 10 11), (0, .class_ 12), (0, .nameAndType 13 14), (0, u "java/util/ArrayList"), (0, u "elementData"), (0, u "[Ljava/lang/Object;"), (2, u "EMPTY_ELEMENTDATA"), (21, .fieldref 10 40), (0, .nameAndType 41 14), (0, u "DEFAULTCAPACITY_EMPTY_ELEMENTDATA"), (4, u "toArray"), (0, u "()[Ljava/lang/Object;"), (0, .fieldref 10 49), (0, .nameAndType 50 51), (0, u "size"), (0, u "I"), (6, .class_ 60), (1, u "java/util/Arrays"), (0, u "copyOf"), (1, .fieldref 10 64), (0, .nameAndType 65 51), (0, u "modCount"), (0, .methodref 58 67), (0, .nameAndType 61 68), (0, u "([Ljava/lang/Object;I)[Ljava/lang/Object;"), (0, .methodref 10 70), (0, .nameAndType 71 72), (0, u "grow"), (0, u "(I)[Ljava/lang/Object;"), (6, .methodref 80 81), (0, .class_ 82), (0, .nameAndType 83 84), (0, u "java/lang/Math"), (0, u "max"), (0, u "(II)I"), (11, u "(Ljava/lang/Object;)Z"), (32, .methodref 10 130), (0, .nameAndType 71 47), (0, .methodref 10 132), (0, .nameAndType 133 134), (0, u "add"), (0, u "(Ljava/lang/Object;[Ljava/lang/Object;I)V"), (13, .class_ 149), (0, u "java/util/List"), (23, u "()Z"), (88, .class_ 263), (0, u "java/util/ArrayList$ListItr"), (3, .class_ 268), (0, u "java/util/ArrayList$Itr"), (7, .class_ 277), (0, u "java/util/ArrayList$SubList"), (12, .class_ 291), (0, u "java/util/ArrayList$ArrayListSpliterator"), (37, .class_ 330), (0, u "java/util/RandomAccess"), (0, .class_ 332), (0, u "java/lang/Cloneable"), (0, .class_ 334), (0, u "java/io/Serializable"), (0, u "serialVersionUID"), (0, u "J"), (3, u "DEFAULT_CAPACITY"), (22, u "isEmpty"), (136, .class_ 501), (0, u "java/util/ArrayList$SubList$2"), (0, .class_ 503), (0, u "java/util/ArrayList$SubList$1")] 5

def k11c0 : Code := { maxStack := 2, maxLocals := 1, code := jdk_38_method_2_code, exceptionTable := #[], attributes := #[] }
def k11m0 : Method := { name := "<init>", desc := "()V", sig := { parameters := [], returnType := none }, accessFlags := 1, code := some k11c0 }
def k11c1 : Code := { maxStack := 4, maxLocals := 4, code := jdk_38_method_6_code, exceptionTable := #[], attributes := #[] }
def k11m1 : Method := { name := "grow", desc := "(I)[Ljava/lang/Object;", sig := { parameters := [.int], returnType := some (.array (.object "java/lang/Object")) }, accessFlags := 2, code := some k11c1 }
def k11c2 : Code := { maxStack := 3, maxLocals := 1, code := jdk_38_method_7_code, exceptionTable := #[], attributes := #[] }
def k11m2 : Method := { name := "grow", desc := "()[Ljava/lang/Object;", sig := { parameters := [], returnType := some (.array (.object "java/lang/Object")) }, accessFlags := 2, code := some k11c2 }
def k11c3 : Code := { maxStack := 1, maxLocals := 1, code := jdk_38_method_9_code, exceptionTable := #[], attributes := #[] }
def k11m3 : Method := { name := "isEmpty", desc := "()Z", sig := { parameters := [], returnType := some .boolean }, accessFlags := 1, code := some k11c3 }
def k11c4 : Code := { maxStack := 2, maxLocals := 1, code := jdk_38_method_16_code, exceptionTable := #[], attributes := #[] }
def k11m4 : Method := { name := "toArray", desc := "()[Ljava/lang/Object;", sig := { parameters := [], returnType := some (.array (.object "java/lang/Object")) }, accessFlags := 1, code := some k11c4 }
def k11c5 : Code := { maxStack := 3, maxLocals := 4, code := jdk_38_method_24_code, exceptionTable := #[], attributes := #[] }
def k11m5 : Method := { name := "add", desc := "(Ljava/lang/Object;[Ljava/lang/Object;I)V", sig := { parameters := [(.object "java/lang/Object"), (.array (.object "java/lang/Object")), .int], returnType := none }, accessFlags := 2, code := some k11c5 }
def k11c6 : Code := { maxStack := 4, maxLocals := 2, code := jdk_38_method_25_code, exceptionTable := #[], attributes := #[] }
def k11m6 : Method := { name := "add", desc := "(Ljava/lang/Object;)Z", sig := { parameters := [(.object "java/lang/Object")], returnType := some .boolean }, accessFlags := 1, code := some k11c6 }
/-- java/util/ArrayList -/
def k11 : Class := { plain "java/util/ArrayList" (some 7) with
  accessFlags := 33
  interfaces := #[6, 8, 9, 10]
  cf := some (fileOf pool11 10 #[.nestMembers #[290, 276, 500, 502, 262, 267]] #[{ accessFlags := 1, nameIndex := 5, descriptorIndex := 6, attributes := #[] }, { accessFlags := 2, nameIndex := 71, descriptorIndex := 72, attributes := #[] }, { accessFlags := 2, nameIndex := 71, descriptorIndex := 47, attributes := #[] }, { accessFlags := 1, nameIndex := 363, descriptorIndex := 173, attributes := #[] }, { accessFlags := 1, nameIndex := 46, descriptorIndex := 47, attributes := #[] }, { accessFlags := 2, nameIndex := 133, descriptorIndex := 134, attributes := #[] }, { accessFlags := 1, nameIndex := 133, descriptorIndex := 96, attributes := #[] }] 33 2 #[148, 329, 331, 333] #[{ accessFlags := 26, nameIndex := 335, descriptorIndex := 336, attributes := #[] }, { accessFlags := 26, nameIndex := 340, descriptorIndex := 51, attributes := #[] }, { accessFlags := 26, nameIndex := 17, descriptorIndex := 14, attributes := #[] }, { accessFlags := 26, nameIndex := 41, descriptorIndex := 14, attributes := #[] }, { accessFlags := 128, nameIndex := 13, descriptorIndex := 14, attributes := #[] }, { accessFlags := 2, nameIndex := 50, descriptorIndex := 51, attributes := #[] }])
  fields := #[{ name := "serialVersionUID", type := .long, accessFlags := 26, slot := 0, constantValue := 0 }, { name := "DEFAULT_CAPACITY", type := .int, accessFlags := 26, slot := 1, constantValue := 0 }, { name := "EMPTY_ELEMENTDATA", type := (.array (.object "java/lang/Object")), accessFlags := 26, slot := 2, constantValue := 0 }, { name := "DEFAULTCAPACITY_EMPTY_ELEMENTDATA", type := (.array (.object "java/lang/Object")), accessFlags := 26, slot := 3, constantValue := 0 }, { name := "elementData", type := (.array (.object "java/lang/Object")), accessFlags := 128, slot := 1, constantValue := 0 }, { name := "size", type := .int, accessFlags := 2, slot := 2, constantValue := 0 }]
  methods := #[k11m0, k11m1, k11m2, k11m3, k11m4, k11m5, k11m6]
  instanceTypes := #[.int, (.array (.object "java/lang/Object")), .int]
  staticTypes := #[.long, .int, (.array (.object "java/lang/Object")), (.array (.object "java/lang/Object"))]
  resolved := Array.replicate 509 none
  statics := some 0 }

def pool12 : Array CpInfo := pool [(1, .methodref 2 3), (0, .class_ 4), (0, .nameAndType 5 6), (0, u "java/lang/Object"), (0, u "<init>"), (0, u "()V"), (0, .class_ 8), (0, u "java/lang/Record")] 13

def k12c0 : Code := { maxStack := 1, maxLocals := 1, code := jdk_30_method_1_code, exceptionTable := #[], attributes := #[] }
def k12m0 : Method := { name := "<init>", desc := "()V", sig := { parameters := [], returnType := none }, accessFlags := 4, code := some k12c0 }
/-- java/lang/Record -/
def k12 : Class := { plain "java/lang/Record" (some 0) with
  accessFlags := 1057
  interfaces := #[]
  cf := some (fileOf pool12 7 #[] #[{ accessFlags := 4, nameIndex := 5, descriptorIndex := 6, attributes := #[] }] 1057 2 #[] #[])
  fields := #[]
  methods := #[k12m0]
  instanceTypes := #[]
  staticTypes := #[]
  resolved := Array.replicate 22 none
  statics := none }

def pool13 : Array CpInfo := pool [(1, .methodref 2 3), (0, .class_ 4), (0, .nameAndType 5 6), (0, u "java/lang/Record"), (0, u "<init>"), (0, u "()V"), (0, .fieldref 8 9), (0, .class_ 10), (0, .nameAndType 11 12), (0, u "com/example/slotwright/slotwright/EnrolmentInstance$Room"), (0, u "size"), (0, u "I"), (0, .fieldref 8 14), (0, .nameAndType 15 16), (0, u "features"), (0, u "Ljava/util/BitSet;"), (12, u "(ILjava/util/BitSet;)V"), (4, u "()I"), (1, u "()Ljava/util/BitSet;"), (3, .class_ 41), (0, u "com/example/slotwright/slotwright/EnrolmentInstance")] 20

def k13c0 : Code := { maxStack := 2, maxLocals := 3, code := prog_10_method_1_code, exceptionTable := #[], attributes := #[] }
def k13m0 : Method := { name := "<init>", desc := "(ILjava/util/BitSet;)V", sig := { parameters := [.int, (.object "java/util/BitSet")], returnType := none }, accessFlags := 0, code := some k13c0 }
def k13c1 : Code := { maxStack := 1, maxLocals := 1, code := prog_10_method_5_code, exceptionTable := #[], attributes := #[] }
def k13m1 : Method := { name := "size", desc := "()I", sig := { parameters := [], returnType := some .int }, accessFlags := 1, code := some k13c1 }
def k13c2 : Code := { maxStack := 1, maxLocals := 1, code := prog_10_method_6_code, exceptionTable := #[], attributes := #[] }
def k13m2 : Method := { name := "features", desc := "()Ljava/util/BitSet;", sig := { parameters := [], returnType := some (.object "java/util/BitSet") }, accessFlags := 1, code := some k13c2 }
/-- com/example/slotwright/slotwright/EnrolmentInstance$Room -/
def k13 : Class := { plain "com/example/slotwright/slotwright/EnrolmentInstance$Room" (some 12) with
  accessFlags := 48
  interfaces := #[]
  cf := some (fileOf pool13 8 #[.nestHost 40] #[{ accessFlags := 0, nameIndex := 5, descriptorIndex := 29, attributes := #[] }, { accessFlags := 1, nameIndex := 11, descriptorIndex := 34, attributes := #[] }, { accessFlags := 1, nameIndex := 15, descriptorIndex := 36, attributes := #[] }] 48 2 #[] #[{ accessFlags := 18, nameIndex := 11, descriptorIndex := 12, attributes := #[] }, { accessFlags := 18, nameIndex := 15, descriptorIndex := 16, attributes := #[] }])
  fields := #[{ name := "size", type := .int, accessFlags := 18, slot := 0, constantValue := 0 }, { name := "features", type := (.object "java/util/BitSet"), accessFlags := 18, slot := 1, constantValue := 0 }]
  methods := #[k13m0, k13m1, k13m2]
  instanceTypes := #[.int, (.object "java/util/BitSet")]
  staticTypes := #[]
  resolved := Array.replicate 62 none
  statics := none }

def pool14 : Array CpInfo := pool [(1, .class_ 2), (0, u "java/util/BitSet"), (0, .fieldref 1 4), (0, .nameAndType 5 6), (0, u "$assertionsDisabled"), (0, u "Z"), (0, .fieldref 1 8), (0, .nameAndType 9 10), (0, u "wordsInUse"), (0, u "I"), (0, .fieldref 1 12), (0, .nameAndType 13 14), (0, u "words"), (0, u "[J"), (3, .nameAndType 19 20), (0, u "<init>"), (0, u "()V"), (0, .methodref 22 18), (0, .class_ 23), (0, u "java/lang/Object"), (0, .fieldref 1 25), (0, .nameAndType 26 6), (0, u "sizeIsSticky"), (0, .methodref 1 28), (0, .nameAndType 29 30), (0, u "initWords"), (0, u "(I)V"), (21, .methodref 1 53), (0, .nameAndType 54 55), (0, u "wordIndex"), (0, u "(I)I"), (0, .methodref 1 57), (0, .nameAndType 58 20), (0, u "checkInvariants"), (0, .methodref 60 61), (0, .class_ 62), (0, .nameAndType 63 64), (0, u "java/util/Arrays"), (0, u "copyOf"), (0, u "([JI)[J"), (68, .methodref 134 135), (0, .class_ 136), (0, .nameAndType 137 138), (0, u "java/lang/Math"), (0, u "max"), (0, u "(II)I"), (0, .methodref 1 140), (0, .nameAndType 141 30), (0, u "ensureCapacity"), (13, .methodref 1 156), (0, .nameAndType 157 30), (0, u "expandTo"), (0, .methodref 1 159), (0, .nameAndType 160 20), (0, u "recalculateWordsInUse"), (4, .long 18446744073709551615), (3, u "set"), (23, .methodref 134 194), (0, .nameAndType 195 138), (0, u "min"), (3, .methodref 200 201), (0, .class_ 202), (0, .nameAndType 203 204), (0, u "java/lang/System"), (0, u "arraycopy"), (0, u "(Ljava/lang/Object;ILjava/lang/Object;II)V"), (64, .class_ 270), (0, u "java/util/BitSet$1BitSetSpliterator"), (14, u "()Z"), (7, u "serialPersistentFields"), (0, u "[Ljava/io/ObjectStreamField;"), (0, .class_ 296), (0, u "java/lang/Cloneable"), (0, .class_ 298), (0, u "java/io/Serializable"), (0, u "ADDRESS_BITS_PER_WORD"), (2, u "BITS_PER_WORD"), (1, u "BIT_INDEX_MASK"), (1, u "WORD_MASK"), (0, u "J"), (0, u "serialVersionUID"), (52, u "isEmpty"), (4, u "(Ljava/util/BitSet;)V"), (0, u "or"), (2, u "andNot")] 46

def k14c0 : Code := { maxStack := 2, maxLocals := 1, code := jdk_92_method_1_code, exceptionTable := #[], attributes := #[] }
def k14m0 : Method := { name := "wordIndex", desc := "(I)I", sig := { parameters := [.int], returnType := some .int }, accessFlags := 10, code := some k14c0 }
def k14c1 : Code := { maxStack := 4, maxLocals := 1, code := jdk_92_method_2_code, exceptionTable := #[], attributes := #[] }
def k14m1 : Method := { name := "checkInvariants", desc := "()V", sig := { parameters := [], returnType := none }, accessFlags := 2, code := some k14c1 }
def k14c2 : Code := { maxStack := 4, maxLocals := 2, code := jdk_92_method_3_code, exceptionTable := #[], attributes := #[] }
def k14m2 : Method := { name := "recalculateWordsInUse", desc := "()V", sig := { parameters := [], returnType := none }, accessFlags := 2, code := some k14c2 }
def k14c3 : Code := { maxStack := 2, maxLocals := 1, code := jdk_92_method_4_code, exceptionTable := #[], attributes := #[] }
def k14m3 : Method := { name := "<init>", desc := "()V", sig := { parameters := [], returnType := none }, accessFlags := 1, code := some k14c3 }
def k14c4 : Code := { maxStack := 3, maxLocals := 2, code := jdk_92_method_6_code, exceptionTable := #[], attributes := #[] }
def k14m4 : Method := { name := "initWords", desc := "(I)V", sig := { parameters := [.int], returnType := none }, accessFlags := 2, code := some k14c4 }
def k14c5 : Code := { maxStack := 3, maxLocals := 3, code := jdk_92_method_14_code, exceptionTable := #[], attributes := #[] }
def k14m5 : Method := { name := "ensureCapacity", desc := "(I)V", sig := { parameters := [.int], returnType := none }, accessFlags := 2, code := some k14c5 }
def k14c6 : Code := { maxStack := 2, maxLocals := 3, code := jdk_92_method_15_code, exceptionTable := #[], attributes := #[] }
def k14m6 : Method := { name := "expandTo", desc := "(I)V", sig := { parameters := [.int], returnType := none }, accessFlags := 2, code := some k14c6 }
def k14c7 : Code := { maxStack := 7, maxLocals := 3, code := jdk_92_method_19_code, exceptionTable := #[], attributes := #[] }
def k14m7 : Method := { name := "set", desc := "(I)V", sig := { parameters := [.int], returnType := none }, accessFlags := 1, code := some k14c7 }
def k14c8 : Code := { maxStack := 1, maxLocals := 1, code := jdk_92_method_33_code, exceptionTable := #[], attributes := #[] }
def k14m8 : Method := { name := "isEmpty", desc := "()Z", sig := { parameters := [], returnType := some .boolean }, accessFlags := 1, code := some k14c8 }
def k14c9 : Code := { maxStack := 6, maxLocals := 4, code := jdk_92_method_37_code, exceptionTable := #[], attributes := #[] }
def k14m9 : Method := { name := "or", desc := "(Ljava/util/BitSet;)V", sig := { parameters := [(.object "java/util/BitSet")], returnType := none }, accessFlags := 1, code := some k14c9 }
def k14c10 : Code := { maxStack := 8, maxLocals := 3, code := jdk_92_method_39_code, exceptionTable := #[], attributes := #[] }
def k14m10 : Method := { name := "andNot", desc := "(Ljava/util/BitSet;)V", sig := { parameters := [(.object "java/util/BitSet")], returnType := none }, accessFlags := 1, code := some k14c10 }
/-- java/util/BitSet -/
def k14 : Class := { plain "java/util/BitSet" (some 0) with
  accessFlags := 33
  interfaces := #[9, 10]
  cf := some (fileOf pool14 1 #[.nestMembers #[269]] #[{ accessFlags := 10, nameIndex := 54, descriptorIndex := 55, attributes := #[] }, { accessFlags := 2, nameIndex := 58, descriptorIndex := 20, attributes := #[] }, { accessFlags := 2, nameIndex := 160, descriptorIndex := 20, attributes := #[] }, { accessFlags := 1, nameIndex := 19, descriptorIndex := 20, attributes := #[] }, { accessFlags := 2, nameIndex := 29, descriptorIndex := 30, attributes := #[] }, { accessFlags := 2, nameIndex := 141, descriptorIndex := 30, attributes := #[] }, { accessFlags := 2, nameIndex := 157, descriptorIndex := 30, attributes := #[] }, { accessFlags := 1, nameIndex := 169, descriptorIndex := 30, attributes := #[] }, { accessFlags := 1, nameIndex := 361, descriptorIndex := 285, attributes := #[] }, { accessFlags := 1, nameIndex := 367, descriptorIndex := 366, attributes := #[] }, { accessFlags := 1, nameIndex := 370, descriptorIndex := 366, attributes := #[] }] 33 22 #[295, 297] #[{ accessFlags := 26, nameIndex := 299, descriptorIndex := 10, attributes := #[] }, { accessFlags := 26, nameIndex := 302, descriptorIndex := 10, attributes := #[] }, { accessFlags := 26, nameIndex := 304, descriptorIndex := 10, attributes := #[] }, { accessFlags := 26, nameIndex := 306, descriptorIndex := 307, attributes := #[] }, { accessFlags := 26, nameIndex := 293, descriptorIndex := 294, attributes := #[] }, { accessFlags := 2, nameIndex := 13, descriptorIndex := 14, attributes := #[] }, { accessFlags := 130, nameIndex := 9, descriptorIndex := 10, attributes := #[] }, { accessFlags := 130, nameIndex := 26, descriptorIndex := 6, attributes := #[] }, { accessFlags := 26, nameIndex := 308, descriptorIndex := 307, attributes := #[] }, { accessFlags := 4120, nameIndex := 5, descriptorIndex := 6, attributes := #[] }])
  fields := #[{ name := "ADDRESS_BITS_PER_WORD", type := .int, accessFlags := 26, slot := 0, constantValue := 0 }, { name := "BITS_PER_WORD", type := .int, accessFlags := 26, slot := 1, constantValue := 0 }, { name := "BIT_INDEX_MASK", type := .int, accessFlags := 26, slot := 2, constantValue := 0 }, { name := "WORD_MASK", type := .long, accessFlags := 26, slot := 3, constantValue := 0 }, { name := "serialPersistentFields", type := (.array (.object "java/io/ObjectStreamField")), accessFlags := 26, slot := 4, constantValue := 0 }, { name := "words", type := (.array .long), accessFlags := 2, slot := 0, constantValue := 0 }, { name := "wordsInUse", type := .int, accessFlags := 130, slot := 1, constantValue := 0 }, { name := "sizeIsSticky", type := .boolean, accessFlags := 130, slot := 2, constantValue := 0 }, { name := "serialVersionUID", type := .long, accessFlags := 26, slot := 5, constantValue := 0 }, { name := "$assertionsDisabled", type := .boolean, accessFlags := 4120, slot := 6, constantValue := 0 }]
  methods := #[k14m0, k14m1, k14m2, k14m3, k14m4, k14m5, k14m6, k14m7, k14m8, k14m9, k14m10]
  instanceTypes := #[(.array .long), .int, .boolean]
  staticTypes := #[.int, .int, .int, .long, (.array (.object "java/io/ObjectStreamField")), .long, .boolean]
  resolved := Array.replicate 417 none
  statics := some 1 }

def pool15 : Array CpInfo := pool [(1, .class_ 2), (0, u "java/lang/Math"), (1, .class_ 6), (1, u "java/lang/Object"), (0, u "<init>"), (0, u "()V"), (89, .class_ 100), (1, u "java/lang/Math$RandomNumberGeneratorHolder"), (71, u "negativeZeroFloatBits"), (0, u "J"), (2, u "negativeZeroDoubleBits"), (21, u "max"), (2, u "min"), (43, u "$assertionsDisabled"), (0, u "Z"), (88, u "(II)I"), (2, u "twoToTheDoubleScaleDown"), (0, u "D"), (4, u "twoToTheDoubleScaleUp"), (9, u "E"), (3, u "PI"), (2, u "TAU"), (2, u "DEGREES_TO_RADIANS"), (0, u "RADIANS_TO_DEGREES")] 94

def k15m0 : Method := { name := "<init>", desc := "()V", sig := { parameters := [], returnType := none }, accessFlags := 2, code := none }
def k15c1 : Code := { maxStack := 2, maxLocals := 2, code := jdk_29_method_65_code, exceptionTable := #[], attributes := #[] }
def k15m1 : Method := { name := "max", desc := "(II)I", sig := { parameters := [.int, .int], returnType := some .int }, accessFlags := 9, code := some k15c1 }
def k15c2 : Code := { maxStack := 2, maxLocals := 2, code := jdk_29_method_69_code, exceptionTable := #[], attributes := #[] }
def k15m2 : Method := { name := "min", desc := "(II)I", sig := { parameters := [.int, .int], returnType := some .int }, accessFlags := 9, code := some k15c2 }
/-- java/lang/Math -/
def k15 : Class := { plain "java/lang/Math" (some 0) with
  accessFlags := 49
  interfaces := #[]
  cf := some (fileOf pool15 1 #[.nestMembers #[98]] #[{ accessFlags := 2, nameIndex := 7, descriptorIndex := 8, attributes := #[] }, { accessFlags := 9, nameIndex := 198, descriptorIndex := 335, attributes := #[] }, { accessFlags := 9, nameIndex := 201, descriptorIndex := 335, attributes := #[] }] 49 4 #[] #[{ accessFlags := 25, nameIndex := 354, descriptorIndex := 339, attributes := #[] }, { accessFlags := 25, nameIndex := 358, descriptorIndex := 339, attributes := #[] }, { accessFlags := 25, nameIndex := 361, descriptorIndex := 339, attributes := #[] }, { accessFlags := 26, nameIndex := 364, descriptorIndex := 339, attributes := #[] }, { accessFlags := 26, nameIndex := 365, descriptorIndex := 339, attributes := #[] }, { accessFlags := 26, nameIndex := 172, descriptorIndex := 173, attributes := #[] }, { accessFlags := 26, nameIndex := 176, descriptorIndex := 173, attributes := #[] }, { accessFlags := 8, nameIndex := 344, descriptorIndex := 339, attributes := #[] }, { accessFlags := 8, nameIndex := 338, descriptorIndex := 339, attributes := #[] }, { accessFlags := 4120, nameIndex := 245, descriptorIndex := 246, attributes := #[] }])
  fields := #[{ name := "E", type := .double, accessFlags := 25, slot := 0, constantValue := 0 }, { name := "PI", type := .double, accessFlags := 25, slot := 1, constantValue := 0 }, { name := "TAU", type := .double, accessFlags := 25, slot := 2, constantValue := 0 }, { name := "DEGREES_TO_RADIANS", type := .double, accessFlags := 26, slot := 3, constantValue := 0 }, { name := "RADIANS_TO_DEGREES", type := .double, accessFlags := 26, slot := 4, constantValue := 0 }, { name := "negativeZeroFloatBits", type := .long, accessFlags := 26, slot := 5, constantValue := 0 }, { name := "negativeZeroDoubleBits", type := .long, accessFlags := 26, slot := 6, constantValue := 0 }, { name := "twoToTheDoubleScaleUp", type := .double, accessFlags := 8, slot := 7, constantValue := 0 }, { name := "twoToTheDoubleScaleDown", type := .double, accessFlags := 8, slot := 8, constantValue := 0 }, { name := "$assertionsDisabled", type := .boolean, accessFlags := 4120, slot := 9, constantValue := 0 }]
  methods := #[k15m0, k15m1, k15m2]
  instanceTypes := #[]
  staticTypes := #[.double, .double, .double, .double, .double, .long, .long, .double, .double, .boolean]
  resolved := Array.replicate 460 none
  statics := none }

def pool16 : Array CpInfo := pool [(1, .class_ 2), (0, u "com/example/slotwright/slotwright/EnrolmentInstance"), (0, .methodref 4 5), (0, .class_ 6), (0, .nameAndType 7 8), (0, u "java/lang/Object"), (0, u "<init>"), (0, u "()V"), (0, .fieldref 1 10), (0, .nameAndType 11 12), (0, u "events"), (0, u "I"), (0, .interfaceMethodref 14 15), (0, .class_ 16), (0, .nameAndType 17 18), (0, u "java/util/List"), (0, u "copyOf"), (0, u "(Ljava/util/Collection;)Ljava/util/List;"), (0, .fieldref 1 20), (0, .nameAndType 21 22), (0, u "rooms"), (0, u "Ljava/util/List;"), (0, .fieldref 1 24), (0, .nameAndType 25 22), (0, u "eventFeatures"), (0, .fieldref 1 27), (0, .nameAndType 28 22), (0, u "attendance"), (9, u "()Z"), (6, .interfaceMethodref 14 46), (0, .nameAndType 47 48), (0, u "get"), (0, u "(I)Ljava/lang/Object;"), (0, .class_ 50), (0, u "com/example/slotwright/slotwright/EnrolmentInstance$Room"), (0, .class_ 52), (0, u "java/util/BitSet"), (0, .methodref 51 5), (0, .interfaceMethodref 14 55), (0, .nameAndType 56 38), (0, u "isEmpty"), (0, .methodref 51 58), (0, .nameAndType 59 60), (0, u "or"), (0, u "(Ljava/util/BitSet;)V"), (0, .methodref 49 62), (0, .nameAndType 63 64), (0, u "features"), (0, u "()Ljava/util/BitSet;"), (0, .methodref 51 66), (0, .nameAndType 67 60), (0, u "andNot"), (0, .methodref 49 69), (0, .nameAndType 70 71), (0, u "size"), (0, u "()I"), (0, .methodref 51 55), (0, u "DAYS"), (2, u "TIMESLOTS_PER_DAY"), (1, u "TIMESLOTS"), (5, u "(ILjava/util/List;Ljava/util/List;Ljava/util/List;)V"), (9, u "suits"), (0, u "(III)Z")] 5

def k16c0 : Code := { maxStack := 2, maxLocals := 5, code := prog_9_method_1_code, exceptionTable := #[], attributes := #[] }
def k16m0 : Method := { name := "<init>", desc := "(ILjava/util/List;Ljava/util/List;Ljava/util/List;)V", sig := { parameters := [.int, (.object "java/util/List"), (.object "java/util/List"), (.object "java/util/List")], returnType := none }, accessFlags := 0, code := some k16c0 }
def k16c1 : Code := { maxStack := 3, maxLocals := 6, code := prog_9_method_6_code, exceptionTable := #[], attributes := #[] }
def k16m1 : Method := { name := "suits", desc := "(III)Z", sig := { parameters := [.int, .int, .int], returnType := some .boolean }, accessFlags := 0, code := some k16c1 }
/-- com/example/slotwright/slotwright/EnrolmentInstance -/
def k16 : Class := { plain "com/example/slotwright/slotwright/EnrolmentInstance" (some 0) with
  accessFlags := 48
  interfaces := #[]
  cf := some (fileOf pool16 1 #[.nestMembers #[49]] #[{ accessFlags := 0, nameIndex := 7, descriptorIndex := 84, attributes := #[] }, { accessFlags := 0, nameIndex := 94, descriptorIndex := 95, attributes := #[] }] 48 4 #[] #[{ accessFlags := 24, nameIndex := 73, descriptorIndex := 12, attributes := #[] }, { accessFlags := 24, nameIndex := 76, descriptorIndex := 12, attributes := #[] }, { accessFlags := 24, nameIndex := 78, descriptorIndex := 12, attributes := #[] }, { accessFlags := 18, nameIndex := 11, descriptorIndex := 12, attributes := #[] }, { accessFlags := 18, nameIndex := 21, descriptorIndex := 22, attributes := #[] }, { accessFlags := 18, nameIndex := 25, descriptorIndex := 22, attributes := #[] }, { accessFlags := 18, nameIndex := 28, descriptorIndex := 22, attributes := #[] }])
  fields := #[{ name := "DAYS", type := .int, accessFlags := 24, slot := 0, constantValue := 0 }, { name := "TIMESLOTS_PER_DAY", type := .int, accessFlags := 24, slot := 1, constantValue := 0 }, { name := "TIMESLOTS", type := .int, accessFlags := 24, slot := 2, constantValue := 0 }, { name := "events", type := .int, accessFlags := 18, slot := 0, constantValue := 0 }, { name := "rooms", type := (.object "java/util/List"), accessFlags := 18, slot := 1, constantValue := 0 }, { name := "eventFeatures", type := (.object "java/util/List"), accessFlags := 18, slot := 2, constantValue := 0 }, { name := "attendance", type := (.object "java/util/List"), accessFlags := 18, slot := 3, constantValue := 0 }]
  methods := #[k16m0, k16m1]
  instanceTypes := #[.int, (.object "java/util/List"), (.object "java/util/List"), (.object "java/util/List")]
  staticTypes := #[.int, .int, .int]
  resolved := Array.replicate 101 none
  statics := none }

def pool17 : Array CpInfo := pool [(2, .class_ 4), (1, u "java/lang/Object"), (0, u "<init>"), (0, u "()V"), (3, .class_ 11), (0, u "java/util/ImmutableCollections$List12"), (0, .class_ 13), (0, u "java/util/ImmutableCollections$ListN"), (3, u "Z"), (0, .class_ 19), (0, u "java/util/List"), (0, .interfaceMethodref 21 22), (0, .class_ 23), (0, .nameAndType 24 25), (0, u "java/util/Collection"), (0, u "isEmpty"), (0, u "()Z"), (0, .interfaceMethodref 18 27), (0, .nameAndType 28 29), (0, u "of"), (0, u "()Ljava/util/List;"), (0, .interfaceMethodref 21 31), (0, .nameAndType 32 33), (0, u "toArray"), (0, u "()[Ljava/lang/Object;"), (0, .interfaceMethodref 18 35), (0, .nameAndType 28 36), (0, u "([Ljava/lang/Object;)Ljava/util/List;"), (10, .class_ 49), (1, u "java/util/ImmutableCollections"), (0, u "$assertionsDisabled"), (5, u "[Ljava/lang/Object;"), (5, u "EMPTY_LIST"), (0, u "Ljava/util/ImmutableCollections$ListN;"), (8, u "EMPTY_LIST_NULLS"), (22, u "SALT32L"), (0, u "J"), (2, u "REVERSE"), (6, u "archivedObjects"), (2, u "EMPTY"), (0, u "Ljava/lang/Object;"), (0, .class_ 112), (0, u "java/util/ImmutableCollections$SetN"), (5, u "EMPTY_SET"), (0, u "Ljava/util/ImmutableCollections$SetN;"), (0, .class_ 121), (0, u "java/util/ImmutableCollections$MapN"), (3, u "EMPTY_MAP"), (0, u "Ljava/util/ImmutableCollections$MapN;"), (4, u "EXPAND_FACTOR"), (0, u "I"), (9, u "listCopy"), (0, u "(Ljava/util/Collection;)Ljava/util/List;"), (25, .class_ 170), (0, u "java/util/ImmutableCollections$MapN$MapNIterator"), (0, .class_ 172), (0, u "java/util/ImmutableCollections$MapN$1"), (0, .class_ 174), (0, u "java/util/ImmutableCollections$Map1"), (0, .class_ 176), (0, u "java/util/ImmutableCollections$AbstractImmutableMap"), (0, .class_ 178), (0, u "java/util/ImmutableCollections$SetN$SetNIterator"), (0, .class_ 180), (0, u "java/util/ImmutableCollections$Set12"), (0, .class_ 182), (0, u "java/util/ImmutableCollections$Set12$1"), (0, .class_ 184), (0, u "java/util/ImmutableCollections$AbstractImmutableSet"), (0, .class_ 186), (0, u "java/util/ImmutableCollections$SubList"), (0, .class_ 188), (0, u "java/util/ImmutableCollections$ListItr"), (0, .class_ 190), (0, u "java/util/ImmutableCollections$AbstractImmutableList"), (0, .class_ 192), (0, u "java/util/ImmutableCollections$AbstractImmutableCollection"), (0, .class_ 194), (0, u "java/util/ImmutableCollections$Access"), (0, .class_ 196), (0, u "java/util/ImmutableCollections$Access$1")] 16

def k17m0 : Method := { name := "<init>", desc := "()V", sig := { parameters := [], returnType := none }, accessFlags := 2, code := none }
def k17c1 : Code := { maxStack := 1, maxLocals := 2, code := jdk_56_method_3_code, exceptionTable := #[], attributes := #[] }
def k17m1 : Method := { name := "listCopy", desc := "(Ljava/util/Collection;)Ljava/util/List;", sig := { parameters := [(.object "java/util/Collection")], returnType := some (.object "java/util/List") }, accessFlags := 8, code := some k17c1 }
/-- java/util/ImmutableCollections -/
def k17 : Class := { plain "java/util/ImmutableCollections" (some 0) with
  accessFlags := 32
  interfaces := #[]
  cf := some (fileOf pool17 47 #[.nestMembers #[120, 169, 171, 173, 175, 111, 177, 179, 181, 183, 12, 10, 185, 187, 189, 191, 193, 195]] #[{ accessFlags := 2, nameIndex := 5, descriptorIndex := 6, attributes := #[] }, { accessFlags := 8, nameIndex := 142, descriptorIndex := 143, attributes := #[] }] 32 2 #[] #[{ accessFlags := 26, nameIndex := 95, descriptorIndex := 96, attributes := #[] }, { accessFlags := 26, nameIndex := 99, descriptorIndex := 17, attributes := #[] }, { accessFlags := 10, nameIndex := 106, descriptorIndex := 56, attributes := #[] }, { accessFlags := 26, nameIndex := 109, descriptorIndex := 110, attributes := #[] }, { accessFlags := 24, nameIndex := 62, descriptorIndex := 63, attributes := #[] }, { accessFlags := 24, nameIndex := 72, descriptorIndex := 63, attributes := #[] }, { accessFlags := 24, nameIndex := 118, descriptorIndex := 119, attributes := #[] }, { accessFlags := 24, nameIndex := 125, descriptorIndex := 126, attributes := #[] }, { accessFlags := 24, nameIndex := 131, descriptorIndex := 132, attributes := #[] }, { accessFlags := 4120, nameIndex := 50, descriptorIndex := 17, attributes := #[] }])
  fields := #[{ name := "SALT32L", type := .long, accessFlags := 26, slot := 0, constantValue := 0 }, { name := "REVERSE", type := .boolean, accessFlags := 26, slot := 1, constantValue := 0 }, { name := "archivedObjects", type := (.array (.object "java/lang/Object")), accessFlags := 10, slot := 2, constantValue := 0 }, { name := "EMPTY", type := (.object "java/lang/Object"), accessFlags := 26, slot := 3, constantValue := 0 }, { name := "EMPTY_LIST", type := (.object "java/util/ImmutableCollections$ListN"), accessFlags := 24, slot := 4, constantValue := 0 }, { name := "EMPTY_LIST_NULLS", type := (.object "java/util/ImmutableCollections$ListN"), accessFlags := 24, slot := 5, constantValue := 0 }, { name := "EMPTY_SET", type := (.object "java/util/ImmutableCollections$SetN"), accessFlags := 24, slot := 6, constantValue := 0 }, { name := "EMPTY_MAP", type := (.object "java/util/ImmutableCollections$MapN"), accessFlags := 24, slot := 7, constantValue := 0 }, { name := "EXPAND_FACTOR", type := .int, accessFlags := 24, slot := 8, constantValue := 0 }, { name := "$assertionsDisabled", type := .boolean, accessFlags := 4120, slot := 9, constantValue := 0 }]
  methods := #[k17m0, k17m1]
  instanceTypes := #[]
  staticTypes := #[.long, .boolean, (.array (.object "java/lang/Object")), (.object "java/lang/Object"), (.object "java/util/ImmutableCollections$ListN"), (.object "java/util/ImmutableCollections$ListN"), (.object "java/util/ImmutableCollections$SetN"), (.object "java/util/ImmutableCollections$MapN"), .int, .boolean]
  resolved := Array.replicate 213 none
  statics := some 2 }

def pool18 : Array CpInfo := pool [(1, .methodref 2 3), (0, .class_ 4), (0, .nameAndType 5 6), (0, u "java/util/AbstractCollection"), (0, u "<init>"), (0, u "()V"), (1, .class_ 10), (1, u "java/util/ImmutableCollections"), (2, .class_ 14), (0, u "java/util/ImmutableCollections$AbstractImmutableCollection")] 41

def k18c0 : Code := { maxStack := 1, maxLocals := 1, code := jdk_47_method_1_code, exceptionTable := #[], attributes := #[] }
def k18m0 : Method := { name := "<init>", desc := "()V", sig := { parameters := [], returnType := none }, accessFlags := 0, code := some k18c0 }
/-- java/util/ImmutableCollections$AbstractImmutableCollection -/
def k18 : Class := { plain "java/util/ImmutableCollections$AbstractImmutableCollection" (some 4) with
  accessFlags := 1056
  interfaces := #[]
  cf := some (fileOf pool18 13 #[.nestHost 8] #[{ accessFlags := 0, nameIndex := 5, descriptorIndex := 6, attributes := #[] }] 1056 2 #[] #[])
  fields := #[]
  methods := #[k18m0]
  instanceTypes := #[]
  staticTypes := #[]
  resolved := Array.replicate 56 none
  statics := none }

def pool19 : Array CpInfo := pool [(1, .methodref 2 3), (0, .class_ 4), (0, .nameAndType 5 6), (0, u "java/util/ImmutableCollections$AbstractImmutableCollection"), (0, u "<init>"), (0, u "()V"), (1, .class_ 10), (1, u "java/util/ImmutableCollections"), (3, .class_ 16), (1, u "java/util/ImmutableCollections$AbstractImmutableList"), (60, .class_ 78), (0, u "java/util/List"), (45, .class_ 125), (0, u "java/util/RandomAccess")] 70

def k19c0 : Code := { maxStack := 1, maxLocals := 1, code := jdk_46_method_1_code, exceptionTable := #[], attributes := #[] }
def k19m0 : Method := { name := "<init>", desc := "()V", sig := { parameters := [], returnType := none }, accessFlags := 0, code := some k19c0 }
/-- java/util/ImmutableCollections$AbstractImmutableList -/
def k19 : Class := { plain "java/util/ImmutableCollections$AbstractImmutableList" (some 18) with
  accessFlags := 1056
  interfaces := #[6, 8]
  cf := some (fileOf pool19 14 #[.nestHost 8] #[{ accessFlags := 0, nameIndex := 5, descriptorIndex := 6, attributes := #[] }] 1056 2 #[77, 124] #[])
  fields := #[]
  methods := #[k19m0]
  instanceTypes := #[]
  staticTypes := #[]
  resolved := Array.replicate 196 none
  statics := none }

def pool20 : Array CpInfo := pool [(1, .methodref 2 3), (0, .class_ 4), (0, .nameAndType 5 6), (0, u "java/util/ImmutableCollections$AbstractImmutableList"), (0, u "<init>"), (0, u "()V"), (0, .methodref 8 9), (0, .class_ 10), (0, .nameAndType 11 12), (0, u "java/util/Objects"), (0, u "requireNonNull"), (0, u "(Ljava/lang/Object;)Ljava/lang/Object;"), (0, .fieldref 14 15), (0, .class_ 16), (0, .nameAndType 17 18), (0, u "java/util/ImmutableCollections$List12"), (0, u "e0"), (0, u "Ljava/lang/Object;"), (0, .fieldref 20 21), (0, .class_ 22), (0, .nameAndType 23 18), (0, u "java/util/ImmutableCollections"), (0, u "EMPTY"), (0, .fieldref 14 25), (0, .nameAndType 26 18), (0, u "e1"), (43, .class_ 71), (0, u "java/io/Serializable"), (13, u "(Ljava/lang/Object;Ljava/lang/Object;)V"), (2, u "isEmpty"), (0, u "()Z"), (0, u "get"), (0, u "(I)Ljava/lang/Object;")] 33

def k20c0 : Code := { maxStack := 2, maxLocals := 3, code := jdk_44_method_2_code, exceptionTable := #[], attributes := #[] }
def k20m0 : Method := { name := "<init>", desc := "(Ljava/lang/Object;Ljava/lang/Object;)V", sig := { parameters := [(.object "java/lang/Object"), (.object "java/lang/Object")], returnType := none }, accessFlags := 0, code := some k20c0 }
def k20c1 : Code := { maxStack := 1, maxLocals := 1, code := jdk_44_method_4_code, exceptionTable := #[], attributes := #[] }
def k20m1 : Method := { name := "isEmpty", desc := "()Z", sig := { parameters := [], returnType := some .boolean }, accessFlags := 1, code := some k20c1 }
def k20c2 : Code := { maxStack := 2, maxLocals := 2, code := jdk_44_method_5_code, exceptionTable := #[], attributes := #[] }
def k20m2 : Method := { name := "get", desc := "(I)Ljava/lang/Object;", sig := { parameters := [.int], returnType := some (.object "java/lang/Object") }, accessFlags := 1, code := some k20c2 }
/-- java/util/ImmutableCollections$List12 -/
def k20 : Class := { plain "java/util/ImmutableCollections$List12" (some 19) with
  accessFlags := 48
  interfaces := #[10]
  cf := some (fileOf pool20 14 #[.nestHost 20] #[{ accessFlags := 0, nameIndex := 5, descriptorIndex := 85, attributes := #[] }, { accessFlags := 1, nameIndex := 88, descriptorIndex := 89, attributes := #[] }, { accessFlags := 1, nameIndex := 90, descriptorIndex := 91, attributes := #[] }] 48 2 #[70] #[{ accessFlags := 18, nameIndex := 17, descriptorIndex := 18, attributes := #[] }, { accessFlags := 18, nameIndex := 26, descriptorIndex := 18, attributes := #[] }])
  fields := #[{ name := "e0", type := (.object "java/lang/Object"), accessFlags := 18, slot := 0, constantValue := 0 }, { name := "e1", type := (.object "java/lang/Object"), accessFlags := 18, slot := 1, constantValue := 0 }]
  methods := #[k20m0, k20m1, k20m2]
  instanceTypes := #[(.object "java/lang/Object"), (.object "java/lang/Object")]
  staticTypes := #[]
  resolved := Array.replicate 125 none
  statics := none }

def pool21 : Array CpInfo := pool [(2, .class_ 4), (1, u "java/util/ImmutableCollections$AbstractImmutableList"), (2, .fieldref 8 9), (0, .class_ 10), (0, .nameAndType 11 12), (0, u "java/util/ImmutableCollections$ListN"), (0, u "elements"), (0, u "[Ljava/lang/Object;"), (2, u "allowNulls"), (0, u "Z"), (42, .class_ 60), (0, u "java/io/Serializable"), (13, u "isEmpty"), (0, u "()Z"), (38, .class_ 115), (0, u "java/util/ImmutableCollections")] 3

def k21c0 : Code := { maxStack := 1, maxLocals := 1, code := jdk_45_method_2_code, exceptionTable := #[], attributes := #[] }
def k21m0 : Method := { name := "isEmpty", desc := "()Z", sig := { parameters := [], returnType := some .boolean }, accessFlags := 1, code := some k21c0 }
/-- java/util/ImmutableCollections$ListN -/
def k21 : Class := { plain "java/util/ImmutableCollections$ListN" (some 19) with
  accessFlags := 48
  interfaces := #[10]
  cf := some (fileOf pool21 8 #[.nestHost 114] #[{ accessFlags := 1, nameIndex := 74, descriptorIndex := 75, attributes := #[] }] 48 2 #[59] #[{ accessFlags := 18, nameIndex := 11, descriptorIndex := 12, attributes := #[] }, { accessFlags := 18, nameIndex := 15, descriptorIndex := 16, attributes := #[] }])
  fields := #[{ name := "elements", type := (.array (.object "java/lang/Object")), accessFlags := 18, slot := 0, constantValue := 0 }, { name := "allowNulls", type := .boolean, accessFlags := 18, slot := 1, constantValue := 0 }]
  methods := #[k21m0]
  instanceTypes := #[(.array (.object "java/lang/Object")), .boolean]
  staticTypes := #[]
  resolved := Array.replicate 119 none
  statics := none }

def pool22 : Array CpInfo := pool [(2, .class_ 4), (1, u "java/lang/Object"), (0, u "<init>"), (0, u "()V"), (7, .class_ 16), (1, u "java/util/Arrays"), (57, .class_ 76), (1, u "java/util/Arrays$NaturalOrder"), (9, .methodref 2 87), (0, .nameAndType 88 89), (0, u "getClass"), (0, u "()Ljava/lang/Class;"), (20, .class_ 111), (0, u "[Ljava/lang/Object;"), (1, .class_ 115), (1, u "java/util/Arrays$LegacyMergeSort"), (1, u "Z"), (32, .methodref 151 152), (0, .class_ 153), (0, .nameAndType 154 155), (0, u "java/lang/System"), (0, u "arraycopy"), (0, u "(Ljava/lang/Object;ILjava/lang/Object;II)V"), (144, .methodref 14 301), (0, .nameAndType 302 303), (0, u "copyOf"), (0, u "([Ljava/lang/Object;ILjava/lang/Class;)[Ljava/lang/Object;"), (0, .methodref 305 306), (0, .class_ 307), (0, .nameAndType 308 309), (0, u "java/lang/Math"), (0, u "min"), (0, u "(II)I"), (65, .class_ 376), (0, u "java/util/Arrays$ArrayList"), (68, u "$assertionsDisabled"), (269, u "MIN_ARRAY_SORT_GRAN"), (0, u "I"), (2, u "INSERTIONSORT_THRESHOLD"), (140, u "([Ljava/lang/Object;I)[Ljava/lang/Object;"), (11, u "([JI)[J"), (102, .class_ 976), (0, u "java/util/Arrays$ArrayItr")] 52

def k22m0 : Method := { name := "<init>", desc := "()V", sig := { parameters := [], returnType := none }, accessFlags := 2, code := none }
def k22c1 : Code := { maxStack := 3, maxLocals := 2, code := jdk_65_method_119_code, exceptionTable := #[], attributes := #[] }
def k22m1 : Method := { name := "copyOf", desc := "([Ljava/lang/Object;I)[Ljava/lang/Object;", sig := { parameters := [(.array (.object "java/lang/Object")), .int], returnType := some (.array (.object "java/lang/Object")) }, accessFlags := 9, code := some k22c1 }
def k22c2 : Code := { maxStack := 6, maxLocals := 4, code := jdk_65_method_120_code, exceptionTable := #[], attributes := #[] }
def k22m2 : Method := { name := "copyOf", desc := "([Ljava/lang/Object;ILjava/lang/Class;)[Ljava/lang/Object;", sig := { parameters := [(.array (.object "java/lang/Object")), .int, (.object "java/lang/Class")], returnType := some (.array (.object "java/lang/Object")) }, accessFlags := 9, code := some k22c2 }
def k22c3 : Code := { maxStack := 6, maxLocals := 3, code := jdk_65_method_124_code, exceptionTable := #[], attributes := #[] }
def k22m3 : Method := { name := "copyOf", desc := "([JI)[J", sig := { parameters := [(.array .long), .int], returnType := some (.array .long) }, accessFlags := 9, code := some k22c3 }
/-- java/util/Arrays -/
def k22 : Class := { plain "java/util/Arrays" (some 0) with
  accessFlags := 49
  interfaces := #[]
  cf := some (fileOf pool22 14 #[.nestMembers #[975, 375, 113, 74]] #[{ accessFlags := 2, nameIndex := 5, descriptorIndex := 6, attributes := #[] }, { accessFlags := 9, nameIndex := 302, descriptorIndex := 860, attributes := #[] }, { accessFlags := 9, nameIndex := 302, descriptorIndex := 303, attributes := #[] }, { accessFlags := 9, nameIndex := 302, descriptorIndex := 872, attributes := #[] }] 49 2 #[] #[{ accessFlags := 26, nameIndex := 715, descriptorIndex := 716, attributes := #[] }, { accessFlags := 26, nameIndex := 719, descriptorIndex := 716, attributes := #[] }, { accessFlags := 4120, nameIndex := 445, descriptorIndex := 117, attributes := #[] }])
  fields := #[{ name := "MIN_ARRAY_SORT_GRAN", type := .int, accessFlags := 26, slot := 0, constantValue := 0 }, { name := "INSERTIONSORT_THRESHOLD", type := .int, accessFlags := 26, slot := 1, constantValue := 0 }, { name := "$assertionsDisabled", type := .boolean, accessFlags := 4120, slot := 2, constantValue := 0 }]
  methods := #[k22m0, k22m1, k22m2, k22m3]
  instanceTypes := #[]
  staticTypes := #[.int, .int, .boolean]
  resolved := Array.replicate 1029 none
  statics := none }

def pool23 : Array CpInfo := pool [(2, .class_ 4), (1, u "java/lang/Object"), (0, u "<init>"), (0, u "()V"), (1, .class_ 10), (1, u "java/lang/System"), (0, u "allowSecurityManager"), (0, u "I"), (16, u "cons"), (0, u "Ljava/io/Console;"), (77, .class_ 110), (1, u "java/lang/System$CallersHolder"), (43, u "initialErrStream"), (0, u "Ljava/io/PrintStream;"), (19, u "security"), (0, u "Ljava/lang/SecurityManager;"), (31, .class_ 209), (0, u "java/lang/System$1"), (7, u "props"), (0, u "Ljava/util/Properties;"), (2, u "lineSeparator"), (0, u "Ljava/lang/String;"), (96, .class_ 321), (1, u "java/lang/System$LoggerFinder"), (5, .class_ 328), (0, u "java/lang/System$Logger"), (67, u "err"), (2, u "out"), (91, u "notSupportedJnuEncoding"), (15, u "in"), (17, u "initialIn"), (0, u "Ljava/io/InputStream;"), (35, u "bootLayer"), (0, u "Ljava/lang/ModuleLayer;"), (99, .class_ 664), (0, u "java/lang/System$2"), (9, u "NEVER"), (2, u "MAYBE"), (49, u "arraycopy"), (0, u "(Ljava/lang/Object;ILjava/lang/Object;II)V"), (72, .class_ 802), (0, u "java/lang/System$Logger$Level")] 31

def k23m0 : Method := { name := "<init>", desc := "()V", sig := { parameters := [], returnType := none }, accessFlags := 2, code := none }
def k23m1 : Method := { name := "arraycopy", desc := "(Ljava/lang/Object;ILjava/lang/Object;II)V", sig := { parameters := [(.object "java/lang/Object"), .int, (.object "java/lang/Object"), .int, .int], returnType := none }, accessFlags := 265, code := none }
/-- java/lang/System -/
def k23 : Class := { plain "java/lang/System" (some 0) with
  accessFlags := 49
  interfaces := #[]
  cf := some (fileOf pool23 8 #[.nestMembers #[319, 327, 801, 108, 663, 208]] #[{ accessFlags := 2, nameIndex := 5, descriptorIndex := 6, attributes := #[] }, { accessFlags := 265, nameIndex := 727, descriptorIndex := 728, attributes := #[] }] 49 2 #[] #[{ accessFlags := 25, nameIndex := 507, descriptorIndex := 526, attributes := #[] }, { accessFlags := 25, nameIndex := 399, descriptorIndex := 155, attributes := #[] }, { accessFlags := 25, nameIndex := 396, descriptorIndex := 155, attributes := #[] }, { accessFlags := 10, nameIndex := 525, descriptorIndex := 526, attributes := #[] }, { accessFlags := 26, nameIndex := 674, descriptorIndex := 12, attributes := #[] }, { accessFlags := 26, nameIndex := 677, descriptorIndex := 12, attributes := #[] }, { accessFlags := 10, nameIndex := 11, descriptorIndex := 12, attributes := #[] }, { accessFlags := 74, nameIndex := 175, descriptorIndex := 176, attributes := #[] }, { accessFlags := 10, nameIndex := 491, descriptorIndex := 222, attributes := #[] }, { accessFlags := 74, nameIndex := 29, descriptorIndex := 30, attributes := #[] }, { accessFlags := 74, nameIndex := 154, descriptorIndex := 155, attributes := #[] }, { accessFlags := 10, nameIndex := 217, descriptorIndex := 218, attributes := #[] }, { accessFlags := 10, nameIndex := 221, descriptorIndex := 222, attributes := #[] }, { accessFlags := 8, nameIndex := 562, descriptorIndex := 563, attributes := #[] }])
  fields := #[{ name := "in", type := (.object "java/io/InputStream"), accessFlags := 25, slot := 0, constantValue := 0 }, { name := "out", type := (.object "java/io/PrintStream"), accessFlags := 25, slot := 1, constantValue := 0 }, { name := "err", type := (.object "java/io/PrintStream"), accessFlags := 25, slot := 2, constantValue := 0 }, { name := "initialIn", type := (.object "java/io/InputStream"), accessFlags := 10, slot := 3, constantValue := 0 }, { name := "NEVER", type := .int, accessFlags := 26, slot := 4, constantValue := 0 }, { name := "MAYBE", type := .int, accessFlags := 26, slot := 5, constantValue := 0 }, { name := "allowSecurityManager", type := .int, accessFlags := 10, slot := 6, constantValue := 0 }, { name := "security", type := (.object "java/lang/SecurityManager"), accessFlags := 74, slot := 7, constantValue := 0 }, { name := "notSupportedJnuEncoding", type := (.object "java/lang/String"), accessFlags := 10, slot := 8, constantValue := 0 }, { name := "cons", type := (.object "java/io/Console"), accessFlags := 74, slot := 9, constantValue := 0 }, { name := "initialErrStream", type := (.object "java/io/PrintStream"), accessFlags := 74, slot := 10, constantValue := 0 }, { name := "props", type := (.object "java/util/Properties"), accessFlags := 10, slot := 11, constantValue := 0 }, { name := "lineSeparator", type := (.object "java/lang/String"), accessFlags := 10, slot := 12, constantValue := 0 }, { name := "bootLayer", type := (.object "java/lang/ModuleLayer"), accessFlags := 8, slot := 13, constantValue := 0 }]
  methods := #[k23m0, k23m1]
  instanceTypes := #[]
  staticTypes := #[(.object "java/io/InputStream"), (.object "java/io/PrintStream"), (.object "java/io/PrintStream"), (.object "java/io/InputStream"), .int, .int, .int, (.object "java/lang/SecurityManager"), (.object "java/lang/String"), (.object "java/io/Console"), (.object "java/io/PrintStream"), (.object "java/util/Properties"), (.object "java/lang/String"), (.object "java/lang/ModuleLayer")]
  resolved := Array.replicate 834 none
  statics := none }

def pool24 : Array CpInfo := pool [(2, .class_ 4), (1, u "java/lang/Object"), (0, u "<init>"), (0, u "()V"), (35, .class_ 44), (1, u "java/util/Objects"), (0, u "requireNonNull"), (0, u "(Ljava/lang/Object;)Ljava/lang/Object;")] 137

def k24m0 : Method := { name := "<init>", desc := "()V", sig := { parameters := [], returnType := none }, accessFlags := 2, code := none }
def k24c1 : Code := { maxStack := 2, maxLocals := 1, code := jdk_31_method_10_code, exceptionTable := #[], attributes := #[] }
def k24m1 : Method := { name := "requireNonNull", desc := "(Ljava/lang/Object;)Ljava/lang/Object;", sig := { parameters := [(.object "java/lang/Object")], returnType := some (.object "java/lang/Object") }, accessFlags := 9, code := some k24c1 }
/-- java/util/Objects -/
def k24 : Class := { plain "java/util/Objects" (some 0) with
  accessFlags := 49
  interfaces := #[]
  cf := some (fileOf pool24 42 #[] #[{ accessFlags := 2, nameIndex := 5, descriptorIndex := 6, attributes := #[] }, { accessFlags := 9, nameIndex := 45, descriptorIndex := 46, attributes := #[] }] 49 2 #[] #[])
  fields := #[]
  methods := #[k24m0, k24m1]
  instanceTypes := #[]
  staticTypes := #[]
  resolved := Array.replicate 184 none
  statics := none }

def pool25 : Array CpInfo := pool [(1, u "java/lang/Class"), (0, .class_ 1), (0, u "java/lang/Object"), (0, .class_ 3)] 0

/-- java/lang/Class -/
def k25 : Class := { plain "java/lang/Class" (some 0) with
  accessFlags := 49
  interfaces := #[]
  cf := some (fileOf pool25 2 #[] #[] 49 4 #[] #[])
  fields := #[]
  methods := #[]
  instanceTypes := #[]
  staticTypes := #[]
  resolved := Array.replicate 5 none
  statics := none }

/-- the primitive byte -/
def k26 : Class := { plain "byte" none with kind := .primitive 'B', accessFlags := 0x411 }
/-- [B -/
def k27 : Class := { plain "[B" (some 0) with kind := .array 26 .byte, interfaces := #[9, 10], accessFlags := 1041 }

/-- the primitive int -/
def k28 : Class := { plain "int" none with kind := .primitive 'I', accessFlags := 0x411 }
/-- [I -/
def k29 : Class := { plain "[I" (some 0) with kind := .array 28 .int, interfaces := #[9, 10], accessFlags := 1041 }

/-- the primitive long -/
def k30 : Class := { plain "long" none with kind := .primitive 'J', accessFlags := 0x411 }
/-- [J -/
def k31 : Class := { plain "[J" (some 0) with kind := .array 30 .long, interfaces := #[9, 10], accessFlags := 1041 }

/-- [Ljava/lang/Object; -/
def k32 : Class := { plain "[Ljava/lang/Object;" (some 0) with kind := .array 0 (.object "java/lang/Object"), interfaces := #[9, 10], accessFlags := 1041, mirror := some 3 }

def heap : Heap := #[{ cls := 11, slots := #[.long 0, .int 0, .ref 6, .ref 7], vm := .statics 11 },
  { cls := 14, slots := #[.int 0, .int 0, .int 0, .long 0, .null, .long 0, .int 1], vm := .statics 14 },
  { cls := 17, slots := #[.long 0, .int 0, .null, .ref 8, .ref 5, .null, .null, .null, .int 0, .int 1], vm := .statics 17 },
  { cls := 25, slots := #[], vm := .mirror 32 },
  { cls := 32, slots := #[], vm := .none },
  { cls := 21, slots := #[.ref 4, .int 0], vm := .none },
  { cls := 32, slots := #[], vm := .none },
  { cls := 32, slots := #[], vm := .none },
  { cls := 0, slots := #[], vm := .none }]
def classes : Array Class := #[k0, k1, k2, k3, k4, k5, k6, k7, k8, k9, k10, k11, k12, k13, k14, k15, k16, k17, k18, k19, k20, k21, k22, k23, k24, k25, k26, k27, k28, k29, k30, k31, k32]
def interned : List (Array UInt16 × Addr) := []
def slotsUsed : Nat := 23
def theMethod : MethodId := ⟨1, 2⟩
def args0 : Array Value := #[.int 5, .int 3, .int 2, .int 1]
def aboutOver (below : List Frame) : State where
  vm := { classes := classes, interned := interned.toArray }
  heap := heap
  slotsUsed := slotsUsed
  threads := #[{ frames := .invoking theMethod args0 :: below }]
def below0 : List Frame := [.native { method := ⟨0, 0⟩, args := #[] }]
def about1 : State := aboutOver below0
def p0 : Program := .bare "" "" ""
def e0 : Env := launch0.env 0 0 0
theorem w_frames : about1.frames = Frame.invoking theMethod args0 :: below0 := rfl
set_option maxRecDepth 65536 in
theorem w_args : argsFit about1.vm theMethod args0 = true := by decide +kernel
set_option maxRecDepth 65536 in
theorem w_heap : heapFits about1 = true := by decide +kernel
set_option maxRecDepth 65536 in
theorem w_runnable : about1.curStatus? = some .runnable := by decide +kernel
set_option maxRecDepth 65536 in
theorem w_alone : about1.alone = true := by decide +kernel
set_option maxRecDepth 65536 in
theorem w_named : about1.methodNamed? x = some theMethod := by decide +kernel
set_option maxRecDepth 65536 in
theorem w_hears : about1.hears theMethod below0 = true := by decide +kernel
set_option maxRecDepth 65536 in
theorem w_ripe : about1.ripe theMethod args0 below0 = true := by decide +kernel
theorem w_running : about1.status = .running := rfl
set_option maxRecDepth 65536 in
theorem w_room : about1.hasRoom e0.platform room_1 = true :=
  launch0.hasRoom_least _ room_1 (by decide +kernel) (by decide +kernel) (by decide +kernel) (by decide +kernel) (by decide +kernel) (by decide +kernel)
theorem allAtoms_all (ts : List Jvm.Cond) (a : Array Jvm.Value) (st : Jvm.State) : (allAtoms ts).before a st = ts.all (fun c => c.before a st) := by
  induction ts with
  | nil => rfl
  | cons c t ih =>
    show (Jvm.Cond.and c (allAtoms t)).before a st = _
    rw [Jvm.Cond.before_and, ih, List.all_cons]
def words1 : List Jvm.Cond := Jvm.Cond.code x code maxLocals ret :: tables_1
/-- a 'code' word, met by the world's own term for the bytes: nothing is compared byte by byte -/
theorem code_word {y : MethodName} {bytes : ByteArray} {mx : Nat} {rt : Option FieldType} {a : Array Value} {s : State} {m : MethodId} {meth : Method} {c : Code} (h1 : s.methodNamed? y = some m) (h2 : s.vm.method? m = some meth) (h3 : meth.code = some c) (h4 : c.code = bytes)
    (h5 : (c.maxLocals == mx && c.exceptionTable.isEmpty && decide (c.maxStack ≤ mostOperands) && decide (meth.sig.returnType = rt) && !meth.locks && decide (parseMethodDescriptor y.desc = some meth.sig)) = true) : (Jvm.Cond.code y bytes mx rt).before a s = true := by
  simp only [Bool.and_eq_true, beq_iff_eq, Bool.not_eq_true', decide_eq_true_eq] at h5
  obtain ⟨⟨⟨⟨⟨g1, g2⟩, g3⟩, g4⟩, g5⟩, g6⟩ := h5
  simp [Cond.before, Cond.holds, Cond.value, h1, h2, h3, h4, g1, g2, g3, g4, g5, g6]
def isCode : Jvm.Cond → Bool
  | .code _ _ _ _ => true
  | _ => false
theorem all_split {L : List Jvm.Cond} {P : Jvm.Cond → Bool} (h1 : L.all (fun c => isCode c || P c) = true) (h2 : ∀ c ∈ L.filter isCode, P c = true) : L.all P = true := by
  refine List.all_eq_true.mpr fun c hc => ?_
  have h := List.all_eq_true.mp h1 c hc
  rcases Bool.eq_false_or_eq_true (isCode c) with hi | hi
  · exact h2 c (List.mem_filter.mpr ⟨hc, hi⟩)
  · simpa [hi] using h
set_option maxRecDepth 65536 in
theorem w_c0 : (Jvm.Cond.code x code maxLocals ret).before args0 about1 = true := code_word (m := ⟨1, 2⟩) (meth := k1m2) (c := k1c2) (by decide +kernel) rfl rfl rfl (by decide +kernel)
set_option maxRecDepth 65536 in
theorem w_c1 : (Jvm.Cond.code ({ cls := "java/util/ArrayList", name := "<init>", desc := "()V" } : Jvm.MethodName) jdk_38_method_2_code (1 : Nat) (Option.none : Option Jvm.ClassFile.FieldType)).before args0 about1 = true := code_word (m := ⟨11, 0⟩) (meth := k11m0) (c := k11c0) (by decide +kernel) rfl rfl rfl (by decide +kernel)
set_option maxRecDepth 65536 in
theorem w_c2 : (Jvm.Cond.code ({ cls := "java/util/AbstractList", name := "<init>", desc := "()V" } : Jvm.MethodName) jdk_39_method_1_code (1 : Nat) (Option.none : Option Jvm.ClassFile.FieldType)).before args0 about1 = true := code_word (m := ⟨7, 0⟩) (meth := k7m0) (c := k7c0) (by decide +kernel) rfl rfl rfl (by decide +kernel)
set_option maxRecDepth 65536 in
theorem w_c3 : (Jvm.Cond.code ({ cls := "java/util/AbstractCollection", name := "<init>", desc := "()V" } : Jvm.MethodName) jdk_22_method_1_code (1 : Nat) (Option.none : Option Jvm.ClassFile.FieldType)).before args0 about1 = true := code_word (m := ⟨4, 0⟩) (meth := k4m0) (c := k4c0) (by decide +kernel) rfl rfl rfl (by decide +kernel)
set_option maxRecDepth 65536 in
theorem w_c4 : (Jvm.Cond.code ({ cls := "java/lang/Object", name := "<init>", desc := "()V" } : Jvm.MethodName) object_method_1_code (1 : Nat) (Option.none : Option Jvm.ClassFile.FieldType)).before args0 about1 = true := code_word (m := ⟨0, 0⟩) (meth := k0m0) (c := k0c0) (by decide +kernel) rfl rfl rfl (by decide +kernel)
set_option maxRecDepth 65536 in
theorem w_c5 : (Jvm.Cond.code ({ cls := "com/example/slotwright/slotwright/EnrolmentInstanceSuitsPinLaw", name := "bits", desc := "(I)Ljava/util/BitSet;" } : Jvm.MethodName) method_2_code (2 : Nat) (Option.some (Jvm.ClassFile.FieldType.object "java/util/BitSet"))).before args0 about1 = true := code_word (m := ⟨1, 1⟩) (meth := k1m1) (c := k1c1) (by decide +kernel) rfl rfl rfl (by decide +kernel)
set_option maxRecDepth 65536 in
theorem w_c6 : (Jvm.Cond.code ({ cls := "java/util/BitSet", name := "<init>", desc := "()V" } : Jvm.MethodName) jdk_92_method_4_code (1 : Nat) (Option.none : Option Jvm.ClassFile.FieldType)).before args0 about1 = true := code_word (m := ⟨14, 3⟩) (meth := k14m3) (c := k14c3) (by decide +kernel) rfl rfl rfl (by decide +kernel)
set_option maxRecDepth 65536 in
theorem w_c7 : (Jvm.Cond.code ({ cls := "java/util/BitSet", name := "initWords", desc := "(I)V" } : Jvm.MethodName) jdk_92_method_6_code (2 : Nat) (Option.none : Option Jvm.ClassFile.FieldType)).before args0 about1 = true := code_word (m := ⟨14, 4⟩) (meth := k14m4) (c := k14c4) (by decide +kernel) rfl rfl rfl (by decide +kernel)
set_option maxRecDepth 65536 in
theorem w_c8 : (Jvm.Cond.code ({ cls := "java/util/BitSet", name := "wordIndex", desc := "(I)I" } : Jvm.MethodName) jdk_92_method_1_code (1 : Nat) (Option.some Jvm.ClassFile.FieldType.int)).before args0 about1 = true := code_word (m := ⟨14, 0⟩) (meth := k14m0) (c := k14c0) (by decide +kernel) rfl rfl rfl (by decide +kernel)
set_option maxRecDepth 65536 in
theorem w_c9 : (Jvm.Cond.code ({ cls := "java/util/BitSet", name := "set", desc := "(I)V" } : Jvm.MethodName) jdk_92_method_19_code (3 : Nat) (Option.none : Option Jvm.ClassFile.FieldType)).before args0 about1 = true := code_word (m := ⟨14, 7⟩) (meth := k14m7) (c := k14c7) (by decide +kernel) rfl rfl rfl (by decide +kernel)
set_option maxRecDepth 65536 in
theorem w_c10 : (Jvm.Cond.code ({ cls := "java/util/BitSet", name := "expandTo", desc := "(I)V" } : Jvm.MethodName) jdk_92_method_15_code (3 : Nat) (Option.none : Option Jvm.ClassFile.FieldType)).before args0 about1 = true := code_word (m := ⟨14, 6⟩) (meth := k14m6) (c := k14c6) (by decide +kernel) rfl rfl rfl (by decide +kernel)
set_option maxRecDepth 65536 in
theorem w_c11 : (Jvm.Cond.code ({ cls := "java/util/BitSet", name := "ensureCapacity", desc := "(I)V" } : Jvm.MethodName) jdk_92_method_14_code (3 : Nat) (Option.none : Option Jvm.ClassFile.FieldType)).before args0 about1 = true := code_word (m := ⟨14, 5⟩) (meth := k14m5) (c := k14c5) (by decide +kernel) rfl rfl rfl (by decide +kernel)
set_option maxRecDepth 65536 in
theorem w_c12 : (Jvm.Cond.code ({ cls := "java/util/BitSet", name := "checkInvariants", desc := "()V" } : Jvm.MethodName) jdk_92_method_2_code (1 : Nat) (Option.none : Option Jvm.ClassFile.FieldType)).before args0 about1 = true := code_word (m := ⟨14, 1⟩) (meth := k14m1) (c := k14c1) (by decide +kernel) rfl rfl rfl (by decide +kernel)
set_option maxRecDepth 65536 in
theorem w_c13 : (Jvm.Cond.code ({ cls := "com/example/slotwright/slotwright/EnrolmentInstance$Room", name := "<init>", desc := "(ILjava/util/BitSet;)V" } : Jvm.MethodName) prog_10_method_1_code (3 : Nat) (Option.none : Option Jvm.ClassFile.FieldType)).before args0 about1 = true := code_word (m := ⟨13, 0⟩) (meth := k13m0) (c := k13c0) (by decide +kernel) rfl rfl rfl (by decide +kernel)
set_option maxRecDepth 65536 in
theorem w_c14 : (Jvm.Cond.code ({ cls := "java/lang/Record", name := "<init>", desc := "()V" } : Jvm.MethodName) jdk_30_method_1_code (1 : Nat) (Option.none : Option Jvm.ClassFile.FieldType)).before args0 about1 = true := code_word (m := ⟨12, 0⟩) (meth := k12m0) (c := k12c0) (by decide +kernel) rfl rfl rfl (by decide +kernel)
set_option maxRecDepth 65536 in
theorem w_c15 : (Jvm.Cond.code ({ cls := "java/util/ArrayList", name := "add", desc := "(Ljava/lang/Object;)Z" } : Jvm.MethodName) jdk_38_method_25_code (2 : Nat) (Option.some Jvm.ClassFile.FieldType.boolean)).before args0 about1 = true := code_word (m := ⟨11, 6⟩) (meth := k11m6) (c := k11c6) (by decide +kernel) rfl rfl rfl (by decide +kernel)
set_option maxRecDepth 65536 in
theorem w_c16 : (Jvm.Cond.code ({ cls := "java/util/ArrayList", name := "add", desc := "(Ljava/lang/Object;[Ljava/lang/Object;I)V" } : Jvm.MethodName) jdk_38_method_24_code (4 : Nat) (Option.none : Option Jvm.ClassFile.FieldType)).before args0 about1 = true := code_word (m := ⟨11, 5⟩) (meth := k11m5) (c := k11c5) (by decide +kernel) rfl rfl rfl (by decide +kernel)
set_option maxRecDepth 65536 in
theorem w_c17 : (Jvm.Cond.code ({ cls := "java/util/ArrayList", name := "grow", desc := "()[Ljava/lang/Object;" } : Jvm.MethodName) jdk_38_method_7_code (1 : Nat) (Option.some (Jvm.ClassFile.FieldType.array (Jvm.ClassFile.FieldType.object "java/lang/Object")))).before args0 about1 = true := code_word (m := ⟨11, 2⟩) (meth := k11m2) (c := k11c2) (by decide +kernel) rfl rfl rfl (by decide +kernel)
set_option maxRecDepth 65536 in
theorem w_c18 : (Jvm.Cond.code ({ cls := "java/util/ArrayList", name := "grow", desc := "(I)[Ljava/lang/Object;" } : Jvm.MethodName) jdk_38_method_6_code (4 : Nat) (Option.some (Jvm.ClassFile.FieldType.array (Jvm.ClassFile.FieldType.object "java/lang/Object")))).before args0 about1 = true := code_word (m := ⟨11, 1⟩) (meth := k11m1) (c := k11c1) (by decide +kernel) rfl rfl rfl (by decide +kernel)
set_option maxRecDepth 65536 in
theorem w_c19 : (Jvm.Cond.code ({ cls := "java/lang/Math", name := "max", desc := "(II)I" } : Jvm.MethodName) jdk_29_method_65_code (2 : Nat) (Option.some Jvm.ClassFile.FieldType.int)).before args0 about1 = true := code_word (m := ⟨15, 1⟩) (meth := k15m1) (c := k15c1) (by decide +kernel) rfl rfl rfl (by decide +kernel)
set_option maxRecDepth 65536 in
theorem w_c20 : (Jvm.Cond.code ({ cls := "com/example/slotwright/slotwright/EnrolmentInstance", name := "<init>", desc := "(ILjava/util/List;Ljava/util/List;Ljava/util/List;)V" } : Jvm.MethodName) prog_9_method_1_code (5 : Nat) (Option.none : Option Jvm.ClassFile.FieldType)).before args0 about1 = true := code_word (m := ⟨16, 0⟩) (meth := k16m0) (c := k16c0) (by decide +kernel) rfl rfl rfl (by decide +kernel)
set_option maxRecDepth 65536 in
theorem w_c21 : (Jvm.Cond.code ({ cls := "java/util/List", name := "copyOf", desc := "(Ljava/util/Collection;)Ljava/util/List;" } : Jvm.MethodName) jdk_40_method_48_code (1 : Nat) (Option.some (Jvm.ClassFile.FieldType.object "java/util/List"))).before args0 about1 = true := code_word (m := ⟨6, 4⟩) (meth := k6m4) (c := k6c4) (by decide +kernel) rfl rfl rfl (by decide +kernel)
set_option maxRecDepth 65536 in
theorem w_c22 : (Jvm.Cond.code ({ cls := "java/util/ImmutableCollections", name := "listCopy", desc := "(Ljava/util/Collection;)Ljava/util/List;" } : Jvm.MethodName) jdk_56_method_3_code (2 : Nat) (Option.some (Jvm.ClassFile.FieldType.object "java/util/List"))).before args0 about1 = true := code_word (m := ⟨17, 1⟩) (meth := k17m1) (c := k17c1) (by decide +kernel) rfl rfl rfl (by decide +kernel)
set_option maxRecDepth 65536 in
theorem w_c23 : (Jvm.Cond.code ({ cls := "java/util/ArrayList", name := "isEmpty", desc := "()Z" } : Jvm.MethodName) jdk_38_method_9_code (1 : Nat) (Option.some Jvm.ClassFile.FieldType.boolean)).before args0 about1 = true := code_word (m := ⟨11, 3⟩) (meth := k11m3) (c := k11c3) (by decide +kernel) rfl rfl rfl (by decide +kernel)
set_option maxRecDepth 65536 in
theorem w_c24 : (Jvm.Cond.code ({ cls := "java/util/ArrayList", name := "toArray", desc := "()[Ljava/lang/Object;" } : Jvm.MethodName) jdk_38_method_16_code (1 : Nat) (Option.some (Jvm.ClassFile.FieldType.array (Jvm.ClassFile.FieldType.object "java/lang/Object")))).before args0 about1 = true := code_word (m := ⟨11, 4⟩) (meth := k11m4) (c := k11c4) (by decide +kernel) rfl rfl rfl (by decide +kernel)
set_option maxRecDepth 65536 in
theorem w_c25 : (Jvm.Cond.code ({ cls := "java/util/Arrays", name := "copyOf", desc := "([Ljava/lang/Object;I)[Ljava/lang/Object;" } : Jvm.MethodName) jdk_65_method_119_code (2 : Nat) (Option.some (Jvm.ClassFile.FieldType.array (Jvm.ClassFile.FieldType.object "java/lang/Object")))).before args0 about1 = true := code_word (m := ⟨22, 1⟩) (meth := k22m1) (c := k22c1) (by decide +kernel) rfl rfl rfl (by decide +kernel)
set_option maxRecDepth 65536 in
theorem w_c26 : (Jvm.Cond.code ({ cls := "java/util/Arrays", name := "copyOf", desc := "([Ljava/lang/Object;ILjava/lang/Class;)[Ljava/lang/Object;" } : Jvm.MethodName) jdk_65_method_120_code (4 : Nat) (Option.some (Jvm.ClassFile.FieldType.array (Jvm.ClassFile.FieldType.object "java/lang/Object")))).before args0 about1 = true := code_word (m := ⟨22, 2⟩) (meth := k22m2) (c := k22c2) (by decide +kernel) rfl rfl rfl (by decide +kernel)
set_option maxRecDepth 65536 in
theorem w_c27 : (Jvm.Cond.code ({ cls := "java/lang/Math", name := "min", desc := "(II)I" } : Jvm.MethodName) jdk_29_method_69_code (2 : Nat) (Option.some Jvm.ClassFile.FieldType.int)).before args0 about1 = true := code_word (m := ⟨15, 2⟩) (meth := k15m2) (c := k15c2) (by decide +kernel) rfl rfl rfl (by decide +kernel)
set_option maxRecDepth 65536 in
theorem w_c28 : (Jvm.Cond.code ({ cls := "java/util/List", name := "of", desc := "([Ljava/lang/Object;)Ljava/util/List;" } : Jvm.MethodName) jdk_40_method_47_code (2 : Nat) (Option.some (Jvm.ClassFile.FieldType.object "java/util/List"))).before args0 about1 = true := code_word (m := ⟨6, 3⟩) (meth := k6m3) (c := k6c3) (by decide +kernel) rfl rfl rfl (by decide +kernel)
set_option maxRecDepth 65536 in
theorem w_c29 : (Jvm.Cond.code ({ cls := "java/util/ImmutableCollections$List12", name := "<init>", desc := "(Ljava/lang/Object;Ljava/lang/Object;)V" } : Jvm.MethodName) jdk_44_method_2_code (3 : Nat) (Option.none : Option Jvm.ClassFile.FieldType)).before args0 about1 = true := code_word (m := ⟨20, 0⟩) (meth := k20m0) (c := k20c0) (by decide +kernel) rfl rfl rfl (by decide +kernel)
set_option maxRecDepth 65536 in
theorem w_c30 : (Jvm.Cond.code ({ cls := "java/util/ImmutableCollections$AbstractImmutableList", name := "<init>", desc := "()V" } : Jvm.MethodName) jdk_46_method_1_code (1 : Nat) (Option.none : Option Jvm.ClassFile.FieldType)).before args0 about1 = true := code_word (m := ⟨19, 0⟩) (meth := k19m0) (c := k19c0) (by decide +kernel) rfl rfl rfl (by decide +kernel)
set_option maxRecDepth 65536 in
theorem w_c31 : (Jvm.Cond.code ({ cls := "java/util/ImmutableCollections$AbstractImmutableCollection", name := "<init>", desc := "()V" } : Jvm.MethodName) jdk_47_method_1_code (1 : Nat) (Option.none : Option Jvm.ClassFile.FieldType)).before args0 about1 = true := code_word (m := ⟨18, 0⟩) (meth := k18m0) (c := k18c0) (by decide +kernel) rfl rfl rfl (by decide +kernel)
set_option maxRecDepth 65536 in
theorem w_c32 : (Jvm.Cond.code ({ cls := "java/util/Objects", name := "requireNonNull", desc := "(Ljava/lang/Object;)Ljava/lang/Object;" } : Jvm.MethodName) jdk_31_method_10_code (1 : Nat) (Option.some (Jvm.ClassFile.FieldType.object "java/lang/Object"))).before args0 about1 = true := code_word (m := ⟨24, 1⟩) (meth := k24m1) (c := k24c1) (by decide +kernel) rfl rfl rfl (by decide +kernel)
set_option maxRecDepth 65536 in
theorem w_c33 : (Jvm.Cond.code ({ cls := "java/util/List", name := "of", desc := "()Ljava/util/List;" } : Jvm.MethodName) jdk_40_method_36_code (0 : Nat) (Option.some (Jvm.ClassFile.FieldType.object "java/util/List"))).before args0 about1 = true := code_word (m := ⟨6, 2⟩) (meth := k6m2) (c := k6c2) (by decide +kernel) rfl rfl rfl (by decide +kernel)
set_option maxRecDepth 65536 in
theorem w_c34 : (Jvm.Cond.code ({ cls := "com/example/slotwright/slotwright/EnrolmentInstance", name := "suits", desc := "(III)Z" } : Jvm.MethodName) prog_9_method_6_code (6 : Nat) (Option.some Jvm.ClassFile.FieldType.boolean)).before args0 about1 = true := code_word (m := ⟨16, 1⟩) (meth := k16m1) (c := k16c1) (by decide +kernel) rfl rfl rfl (by decide +kernel)
set_option maxRecDepth 65536 in
theorem w_c35 : (Jvm.Cond.code ({ cls := "java/util/ImmutableCollections$List12", name := "get", desc := "(I)Ljava/lang/Object;" } : Jvm.MethodName) jdk_44_method_5_code (2 : Nat) (Option.some (Jvm.ClassFile.FieldType.object "java/lang/Object"))).before args0 about1 = true := code_word (m := ⟨20, 2⟩) (meth := k20m2) (c := k20c2) (by decide +kernel) rfl rfl rfl (by decide +kernel)
set_option maxRecDepth 65536 in
theorem w_c36 : (Jvm.Cond.code ({ cls := "java/util/ImmutableCollections$List12", name := "isEmpty", desc := "()Z" } : Jvm.MethodName) jdk_44_method_4_code (1 : Nat) (Option.some Jvm.ClassFile.FieldType.boolean)).before args0 about1 = true := code_word (m := ⟨20, 1⟩) (meth := k20m1) (c := k20c1) (by decide +kernel) rfl rfl rfl (by decide +kernel)
set_option maxRecDepth 65536 in
theorem w_c37 : (Jvm.Cond.code ({ cls := "java/util/BitSet", name := "or", desc := "(Ljava/util/BitSet;)V" } : Jvm.MethodName) jdk_92_method_37_code (4 : Nat) (Option.none : Option Jvm.ClassFile.FieldType)).before args0 about1 = true := code_word (m := ⟨14, 9⟩) (meth := k14m9) (c := k14c9) (by decide +kernel) rfl rfl rfl (by decide +kernel)
set_option maxRecDepth 65536 in
theorem w_c38 : (Jvm.Cond.code ({ cls := "com/example/slotwright/slotwright/EnrolmentInstance$Room", name := "features", desc := "()Ljava/util/BitSet;" } : Jvm.MethodName) prog_10_method_6_code (1 : Nat) (Option.some (Jvm.ClassFile.FieldType.object "java/util/BitSet"))).before args0 about1 = true := code_word (m := ⟨13, 2⟩) (meth := k13m2) (c := k13c2) (by decide +kernel) rfl rfl rfl (by decide +kernel)
set_option maxRecDepth 65536 in
theorem w_c39 : (Jvm.Cond.code ({ cls := "java/util/BitSet", name := "andNot", desc := "(Ljava/util/BitSet;)V" } : Jvm.MethodName) jdk_92_method_39_code (3 : Nat) (Option.none : Option Jvm.ClassFile.FieldType)).before args0 about1 = true := code_word (m := ⟨14, 10⟩) (meth := k14m10) (c := k14c10) (by decide +kernel) rfl rfl rfl (by decide +kernel)
set_option maxRecDepth 65536 in
theorem w_c40 : (Jvm.Cond.code ({ cls := "java/util/BitSet", name := "recalculateWordsInUse", desc := "()V" } : Jvm.MethodName) jdk_92_method_3_code (2 : Nat) (Option.none : Option Jvm.ClassFile.FieldType)).before args0 about1 = true := code_word (m := ⟨14, 2⟩) (meth := k14m2) (c := k14c2) (by decide +kernel) rfl rfl rfl (by decide +kernel)
set_option maxRecDepth 65536 in
theorem w_c41 : (Jvm.Cond.code ({ cls := "com/example/slotwright/slotwright/EnrolmentInstance$Room", name := "size", desc := "()I" } : Jvm.MethodName) prog_10_method_5_code (1 : Nat) (Option.some Jvm.ClassFile.FieldType.int)).before args0 about1 = true := code_word (m := ⟨13, 1⟩) (meth := k13m1) (c := k13c1) (by decide +kernel) rfl rfl rfl (by decide +kernel)
set_option maxRecDepth 65536 in
theorem w_c42 : (Jvm.Cond.code ({ cls := "java/util/Arrays", name := "copyOf", desc := "([JI)[J" } : Jvm.MethodName) jdk_65_method_124_code (3 : Nat) (Option.some (Jvm.ClassFile.FieldType.array Jvm.ClassFile.FieldType.long))).before args0 about1 = true := code_word (m := ⟨22, 3⟩) (meth := k22m3) (c := k22c3) (by decide +kernel) rfl rfl rfl (by decide +kernel)
set_option maxRecDepth 65536 in
theorem w_c43 : (Jvm.Cond.code ({ cls := "java/util/BitSet", name := "isEmpty", desc := "()Z" } : Jvm.MethodName) jdk_92_method_33_code (1 : Nat) (Option.some Jvm.ClassFile.FieldType.boolean)).before args0 about1 = true := code_word (m := ⟨14, 8⟩) (meth := k14m8) (c := k14c8) (by decide +kernel) rfl rfl rfl (by decide +kernel)
set_option maxRecDepth 65536 in
theorem w_c44 : (Jvm.Cond.code ({ cls := "java/util/ImmutableCollections$ListN", name := "isEmpty", desc := "()Z" } : Jvm.MethodName) jdk_45_method_2_code (1 : Nat) (Option.some Jvm.ClassFile.FieldType.boolean)).before args0 about1 = true := code_word (m := ⟨21, 0⟩) (meth := k21m0) (c := k21c0) (by decide +kernel) rfl rfl rfl (by decide +kernel)
def codes1 : List Jvm.Cond := [Jvm.Cond.code x code maxLocals ret, Jvm.Cond.code ({ cls := "java/util/ArrayList", name := "<init>", desc := "()V" } : Jvm.MethodName) jdk_38_method_2_code (1 : Nat) (Option.none : Option Jvm.ClassFile.FieldType), Jvm.Cond.code ({ cls := "java/util/AbstractList", name := "<init>", desc := "()V" } : Jvm.MethodName) jdk_39_method_1_code (1 : Nat) (Option.none : Option Jvm.ClassFile.FieldType), Jvm.Cond.code ({ cls := "java/util/AbstractCollection", name := "<init>", desc := "()V" } : Jvm.MethodName) jdk_22_method_1_code (1 : Nat) (Option.none : Option Jvm.ClassFile.FieldType), Jvm.Cond.code ({ cls := "java/lang/Object", name := "<init>", desc := "()V" } : Jvm.MethodName) object_method_1_code (1 : Nat) (Option.none : Option Jvm.ClassFile.FieldType), Jvm.Cond.code ({ cls := "com/example/slotwright/slotwright/EnrolmentInstanceSuitsPinLaw", name := "bits", desc := "(I)Ljava/util/BitSet;" } : Jvm.MethodName) method_2_code (2 : Nat) (Option.some (Jvm.ClassFile.FieldType.object "java/util/BitSet")), Jvm.Cond.code ({ cls := "java/util/BitSet", name := "<init>", desc := "()V" } : Jvm.MethodName) jdk_92_method_4_code (1 : Nat) (Option.none : Option Jvm.ClassFile.FieldType), Jvm.Cond.code ({ cls := "java/util/BitSet", name := "initWords", desc := "(I)V" } : Jvm.MethodName) jdk_92_method_6_code (2 : Nat) (Option.none : Option Jvm.ClassFile.FieldType), Jvm.Cond.code ({ cls := "java/util/BitSet", name := "wordIndex", desc := "(I)I" } : Jvm.MethodName) jdk_92_method_1_code (1 : Nat) (Option.some Jvm.ClassFile.FieldType.int), Jvm.Cond.code ({ cls := "java/util/BitSet", name := "set", desc := "(I)V" } : Jvm.MethodName) jdk_92_method_19_code (3 : Nat) (Option.none : Option Jvm.ClassFile.FieldType), Jvm.Cond.code ({ cls := "java/util/BitSet", name := "expandTo", desc := "(I)V" } : Jvm.MethodName) jdk_92_method_15_code (3 : Nat) (Option.none : Option Jvm.ClassFile.FieldType), Jvm.Cond.code ({ cls := "java/util/BitSet", name := "ensureCapacity", desc := "(I)V" } : Jvm.MethodName) jdk_92_method_14_code (3 : Nat) (Option.none : Option Jvm.ClassFile.FieldType), Jvm.Cond.code ({ cls := "java/util/BitSet", name := "checkInvariants", desc := "()V" } : Jvm.MethodName) jdk_92_method_2_code (1 : Nat) (Option.none : Option Jvm.ClassFile.FieldType), Jvm.Cond.code ({ cls := "com/example/slotwright/slotwright/EnrolmentInstance$Room", name := "<init>", desc := "(ILjava/util/BitSet;)V" } : Jvm.MethodName) prog_10_method_1_code (3 : Nat) (Option.none : Option Jvm.ClassFile.FieldType), Jvm.Cond.code ({ cls := "java/lang/Record", name := "<init>", desc := "()V" } : Jvm.MethodName) jdk_30_method_1_code (1 : Nat) (Option.none : Option Jvm.ClassFile.FieldType), Jvm.Cond.code ({ cls := "java/util/ArrayList", name := "add", desc := "(Ljava/lang/Object;)Z" } : Jvm.MethodName) jdk_38_method_25_code (2 : Nat) (Option.some Jvm.ClassFile.FieldType.boolean), Jvm.Cond.code ({ cls := "java/util/ArrayList", name := "add", desc := "(Ljava/lang/Object;[Ljava/lang/Object;I)V" } : Jvm.MethodName) jdk_38_method_24_code (4 : Nat) (Option.none : Option Jvm.ClassFile.FieldType), Jvm.Cond.code ({ cls := "java/util/ArrayList", name := "grow", desc := "()[Ljava/lang/Object;" } : Jvm.MethodName) jdk_38_method_7_code (1 : Nat) (Option.some (Jvm.ClassFile.FieldType.array (Jvm.ClassFile.FieldType.object "java/lang/Object"))), Jvm.Cond.code ({ cls := "java/util/ArrayList", name := "grow", desc := "(I)[Ljava/lang/Object;" } : Jvm.MethodName) jdk_38_method_6_code (4 : Nat) (Option.some (Jvm.ClassFile.FieldType.array (Jvm.ClassFile.FieldType.object "java/lang/Object"))), Jvm.Cond.code ({ cls := "java/lang/Math", name := "max", desc := "(II)I" } : Jvm.MethodName) jdk_29_method_65_code (2 : Nat) (Option.some Jvm.ClassFile.FieldType.int), Jvm.Cond.code ({ cls := "com/example/slotwright/slotwright/EnrolmentInstance", name := "<init>", desc := "(ILjava/util/List;Ljava/util/List;Ljava/util/List;)V" } : Jvm.MethodName) prog_9_method_1_code (5 : Nat) (Option.none : Option Jvm.ClassFile.FieldType), Jvm.Cond.code ({ cls := "java/util/List", name := "copyOf", desc := "(Ljava/util/Collection;)Ljava/util/List;" } : Jvm.MethodName) jdk_40_method_48_code (1 : Nat) (Option.some (Jvm.ClassFile.FieldType.object "java/util/List")), Jvm.Cond.code ({ cls := "java/util/ImmutableCollections", name := "listCopy", desc := "(Ljava/util/Collection;)Ljava/util/List;" } : Jvm.MethodName) jdk_56_method_3_code (2 : Nat) (Option.some (Jvm.ClassFile.FieldType.object "java/util/List")), Jvm.Cond.code ({ cls := "java/util/ArrayList", name := "isEmpty", desc := "()Z" } : Jvm.MethodName) jdk_38_method_9_code (1 : Nat) (Option.some Jvm.ClassFile.FieldType.boolean), Jvm.Cond.code ({ cls := "java/util/ArrayList", name := "toArray", desc := "()[Ljava/lang/Object;" } : Jvm.MethodName) jdk_38_method_16_code (1 : Nat) (Option.some (Jvm.ClassFile.FieldType.array (Jvm.ClassFile.FieldType.object "java/lang/Object"))), Jvm.Cond.code ({ cls := "java/util/Arrays", name := "copyOf", desc := "([Ljava/lang/Object;I)[Ljava/lang/Object;" } : Jvm.MethodName) jdk_65_method_119_code (2 : Nat) (Option.some (Jvm.ClassFile.FieldType.array (Jvm.ClassFile.FieldType.object "java/lang/Object"))), Jvm.Cond.code ({ cls := "java/util/Arrays", name := "copyOf", desc := "([Ljava/lang/Object;ILjava/lang/Class;)[Ljava/lang/Object;" } : Jvm.MethodName) jdk_65_method_120_code (4 : Nat) (Option.some (Jvm.ClassFile.FieldType.array (Jvm.ClassFile.FieldType.object "java/lang/Object"))), Jvm.Cond.code ({ cls := "java/lang/Math", name := "min", desc := "(II)I" } : Jvm.MethodName) jdk_29_method_69_code (2 : Nat) (Option.some Jvm.ClassFile.FieldType.int), Jvm.Cond.code ({ cls := "java/util/List", name := "of", desc := "([Ljava/lang/Object;)Ljava/util/List;" } : Jvm.MethodName) jdk_40_method_47_code (2 : Nat) (Option.some (Jvm.ClassFile.FieldType.object "java/util/List")), Jvm.Cond.code ({ cls := "java/util/ImmutableCollections$List12", name := "<init>", desc := "(Ljava/lang/Object;Ljava/lang/Object;)V" } : Jvm.MethodName) jdk_44_method_2_code (3 : Nat) (Option.none : Option Jvm.ClassFile.FieldType), Jvm.Cond.code ({ cls := "java/util/ImmutableCollections$AbstractImmutableList", name := "<init>", desc := "()V" } : Jvm.MethodName) jdk_46_method_1_code (1 : Nat) (Option.none : Option Jvm.ClassFile.FieldType), Jvm.Cond.code ({ cls := "java/util/ImmutableCollections$AbstractImmutableCollection", name := "<init>", desc := "()V" } : Jvm.MethodName) jdk_47_method_1_code (1 : Nat) (Option.none : Option Jvm.ClassFile.FieldType), Jvm.Cond.code ({ cls := "java/util/Objects", name := "requireNonNull", desc := "(Ljava/lang/Object;)Ljava/lang/Object;" } : Jvm.MethodName) jdk_31_method_10_code (1 : Nat) (Option.some (Jvm.ClassFile.FieldType.object "java/lang/Object")), Jvm.Cond.code ({ cls := "java/util/List", name := "of", desc := "()Ljava/util/List;" } : Jvm.MethodName) jdk_40_method_36_code (0 : Nat) (Option.some (Jvm.ClassFile.FieldType.object "java/util/List")), Jvm.Cond.code ({ cls := "com/example/slotwright/slotwright/EnrolmentInstance", name := "suits", desc := "(III)Z" } : Jvm.MethodName) prog_9_method_6_code (6 : Nat) (Option.some Jvm.ClassFile.FieldType.boolean), Jvm.Cond.code ({ cls := "java/util/ImmutableCollections$List12", name := "get", desc := "(I)Ljava/lang/Object;" } : Jvm.MethodName) jdk_44_method_5_code (2 : Nat) (Option.some (Jvm.ClassFile.FieldType.object "java/lang/Object")), Jvm.Cond.code ({ cls := "java/util/ImmutableCollections$List12", name := "isEmpty", desc := "()Z" } : Jvm.MethodName) jdk_44_method_4_code (1 : Nat) (Option.some Jvm.ClassFile.FieldType.boolean), Jvm.Cond.code ({ cls := "java/util/BitSet", name := "or", desc := "(Ljava/util/BitSet;)V" } : Jvm.MethodName) jdk_92_method_37_code (4 : Nat) (Option.none : Option Jvm.ClassFile.FieldType), Jvm.Cond.code ({ cls := "com/example/slotwright/slotwright/EnrolmentInstance$Room", name := "features", desc := "()Ljava/util/BitSet;" } : Jvm.MethodName) prog_10_method_6_code (1 : Nat) (Option.some (Jvm.ClassFile.FieldType.object "java/util/BitSet")), Jvm.Cond.code ({ cls := "java/util/BitSet", name := "andNot", desc := "(Ljava/util/BitSet;)V" } : Jvm.MethodName) jdk_92_method_39_code (3 : Nat) (Option.none : Option Jvm.ClassFile.FieldType), Jvm.Cond.code ({ cls := "java/util/BitSet", name := "recalculateWordsInUse", desc := "()V" } : Jvm.MethodName) jdk_92_method_3_code (2 : Nat) (Option.none : Option Jvm.ClassFile.FieldType), Jvm.Cond.code ({ cls := "com/example/slotwright/slotwright/EnrolmentInstance$Room", name := "size", desc := "()I" } : Jvm.MethodName) prog_10_method_5_code (1 : Nat) (Option.some Jvm.ClassFile.FieldType.int), Jvm.Cond.code ({ cls := "java/util/Arrays", name := "copyOf", desc := "([JI)[J" } : Jvm.MethodName) jdk_65_method_124_code (3 : Nat) (Option.some (Jvm.ClassFile.FieldType.array Jvm.ClassFile.FieldType.long)), Jvm.Cond.code ({ cls := "java/util/BitSet", name := "isEmpty", desc := "()Z" } : Jvm.MethodName) jdk_92_method_33_code (1 : Nat) (Option.some Jvm.ClassFile.FieldType.boolean), Jvm.Cond.code ({ cls := "java/util/ImmutableCollections$ListN", name := "isEmpty", desc := "()Z" } : Jvm.MethodName) jdk_45_method_2_code (1 : Nat) (Option.some Jvm.ClassFile.FieldType.boolean)]
set_option maxRecDepth 65536 in
theorem codes_eq : words1.filter isCode = codes1 := rfl
theorem w_codes : ∀ c ∈ words1.filter isCode, c.before args0 about1 = true := by
  rw [codes_eq]
  intro c hc
  simp only [codes1, List.mem_cons, List.not_mem_nil, or_false] at hc
  rcases hc with rfl | rfl | rfl | rfl | rfl | rfl | rfl | rfl | rfl | rfl | rfl | rfl | rfl | rfl | rfl | rfl | rfl | rfl | rfl | rfl | rfl | rfl | rfl | rfl | rfl | rfl | rfl | rfl | rfl | rfl | rfl | rfl | rfl | rfl | rfl | rfl | rfl | rfl | rfl | rfl | rfl | rfl | rfl | rfl | rfl
  · exact w_c0
  · exact w_c1
  · exact w_c2
  · exact w_c3
  · exact w_c4
  · exact w_c5
  · exact w_c6
  · exact w_c7
  · exact w_c8
  · exact w_c9
  · exact w_c10
  · exact w_c11
  · exact w_c12
  · exact w_c13
  · exact w_c14
  · exact w_c15
  · exact w_c16
  · exact w_c17
  · exact w_c18
  · exact w_c19
  · exact w_c20
  · exact w_c21
  · exact w_c22
  · exact w_c23
  · exact w_c24
  · exact w_c25
  · exact w_c26
  · exact w_c27
  · exact w_c28
  · exact w_c29
  · exact w_c30
  · exact w_c31
  · exact w_c32
  · exact w_c33
  · exact w_c34
  · exact w_c35
  · exact w_c36
  · exact w_c37
  · exact w_c38
  · exact w_c39
  · exact w_c40
  · exact w_c41
  · exact w_c42
  · exact w_c43
  · exact w_c44
set_option maxRecDepth 65536 in
theorem w_t1 : (words1.take 24).all (fun c => isCode c || c.before args0 about1) = true := by decide +kernel
set_option maxRecDepth 65536 in
theorem w_t2 : ((words1.drop 24).take 24).all (fun c => isCode c || c.before args0 about1) = true := by decide +kernel
set_option maxRecDepth 65536 in
theorem w_t3 : (((words1.drop 24).drop 24).take 24).all (fun c => isCode c || c.before args0 about1) = true := by decide +kernel
set_option maxRecDepth 65536 in
theorem w_t4 : ((((words1.drop 24).drop 24).drop 24).take 24).all (fun c => isCode c || c.before args0 about1) = true := by decide +kernel
set_option maxRecDepth 65536 in
theorem w_t5 : (((((words1.drop 24).drop 24).drop 24).drop 24).take 24).all (fun c => isCode c || c.before args0 about1) = true := by decide +kernel
set_option maxRecDepth 65536 in
theorem w_t6 : ((((((words1.drop 24).drop 24).drop 24).drop 24).drop 24).take 24).all (fun c => isCode c || c.before args0 about1) = true := by decide +kernel
set_option maxRecDepth 65536 in
theorem w_t7 : (((((((words1.drop 24).drop 24).drop 24).drop 24).drop 24).drop 24).take 24).all (fun c => isCode c || c.before args0 about1) = true := by decide +kernel
set_option maxRecDepth 65536 in
theorem w_t8 : ((((((((words1.drop 24).drop 24).drop 24).drop 24).drop 24).drop 24).drop 24).take 24).all (fun c => isCode c || c.before args0 about1) = true := by decide +kernel
set_option maxRecDepth 65536 in
theorem w_t9 : (((((((((words1.drop 24).drop 24).drop 24).drop 24).drop 24).drop 24).drop 24).drop 24).take 24).all (fun c => isCode c || c.before args0 about1) = true := by decide +kernel
set_option maxRecDepth 65536 in
theorem w_t10 : ((((((((((words1.drop 24).drop 24).drop 24).drop 24).drop 24).drop 24).drop 24).drop 24).drop 24).take 24).all (fun c => isCode c || c.before args0 about1) = true := by decide +kernel
set_option maxRecDepth 65536 in
theorem w_t11 : (((((((((((words1.drop 24).drop 24).drop 24).drop 24).drop 24).drop 24).drop 24).drop 24).drop 24).drop 24).take 24).all (fun c => isCode c || c.before args0 about1) = true := by decide +kernel
set_option maxRecDepth 65536 in
theorem w_t12 : ((((((((((((words1.drop 24).drop 24).drop 24).drop 24).drop 24).drop 24).drop 24).drop 24).drop 24).drop 24).drop 24).take 24).all (fun c => isCode c || c.before args0 about1) = true := by decide +kernel
set_option maxRecDepth 65536 in
theorem w_t13 : ((((((((((((words1.drop 24).drop 24).drop 24).drop 24).drop 24).drop 24).drop 24).drop 24).drop 24).drop 24).drop 24).drop 24).all (fun c => isCode c || c.before args0 about1) = true := by decide +kernel
theorem w_tables : (allAtoms (Jvm.Cond.code x code maxLocals ret :: tables_1)).before args0 about1 = true := by
  rw [allAtoms_all]
  show words1.all (fun c => c.before args0 about1) = true
  refine all_split ?_ w_codes
  rw [← List.take_append_drop 24 words1, List.all_append, w_t1, ← List.take_append_drop 24 (words1.drop 24), List.all_append, w_t2, ← List.take_append_drop 24 ((words1.drop 24).drop 24), List.all_append, w_t3, ← List.take_append_drop 24 (((words1.drop 24).drop 24).drop 24), List.all_append, w_t4, ← List.take_append_drop 24 ((((words1.drop 24).drop 24).drop 24).drop 24), List.all_append, w_t5, ← List.take_append_drop 24 (((((words1.drop 24).drop 24).drop 24).drop 24).drop 24), List.all_append, w_t6, ← List.take_append_drop 24 ((((((words1.drop 24).drop 24).drop 24).drop 24).drop 24).drop 24), List.all_append, w_t7, ← List.take_append_drop 24 (((((((words1.drop 24).drop 24).drop 24).drop 24).drop 24).drop 24).drop 24), List.all_append, w_t8, ← List.take_append_drop 24 ((((((((words1.drop 24).drop 24).drop 24).drop 24).drop 24).drop 24).drop 24).drop 24), List.all_append, w_t9, ← List.take_append_drop 24 (((((((((words1.drop 24).drop 24).drop 24).drop 24).drop 24).drop 24).drop 24).drop 24).drop 24), List.all_append, w_t10, ← List.take_append_drop 24 ((((((((((words1.drop 24).drop 24).drop 24).drop 24).drop 24).drop 24).drop 24).drop 24).drop 24).drop 24), List.all_append, w_t11, ← List.take_append_drop 24 (((((((((((words1.drop 24).drop 24).drop 24).drop 24).drop 24).drop 24).drop 24).drop 24).drop 24).drop 24).drop 24), List.all_append, w_t12, w_t13]
  rfl
set_option maxRecDepth 65536 in
theorem w_rest : rest_1_c.before args0 about1 = true := by decide +kernel
set_option maxRecDepth 65536 in
theorem w_case : (Jvm.Cond.and given_1 narrow_1).before args0 about1 = true := by decide +kernel
theorem w_applies : (headSpec (Jvm.Cond.code x code maxLocals ret :: tables_1) room_1).applies x e0.platform about1 = true :=
  (Spec.applies_iff w_frames).mpr ⟨w_running, w_runnable, w_alone, w_named, w_hears, w_ripe, w_room, w_tables⟩
theorem atStart : AtStart classFile x code maxLocals ret World_1 tables_1 room_1 Calls_1 rest_1 Pre_1 launch0 p0 e0 about1 theMethod args0 below0 :=
  ⟨lists_1, trivial, launch0.admits_env _ _ _, launch0.least_env, fairChoices_fair.cas, fairChoices_fair.clock, w_frames, w_args, w_heap, w_applies, ⟨⟨32, k32, 3, by decide +kernel, rfl, rfl, _, rfl, rfl⟩, trivial⟩, w_rest, w_case⟩
end start1
theorem witness_1 : WitnessClaimed_1 := ⟨start1.p0, start1.e0, start1.about1, start1.theMethod, start1.args0, start1.below0, start1.atStart⟩
end Jvm.Pilot.@@N@@
