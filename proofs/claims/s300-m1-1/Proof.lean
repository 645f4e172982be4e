import JvmDerived
import JvmDerived.Pilot.@@N@@Statement
import JvmDerived.Pilot.@@N@@Code
set_option linter.unusedVariables false
set_option linter.unusedSimpArgs false
namespace Jvm.GoKit
open Sem ClassFile Op Lib Jvm.Stand Jvm.Free Jvm.LawKit Jvm.RoadKit
/-- what is fixed of one walk, but for the method's own figures -/
abbrev Cx : Type := Program × Launch × Env × State × MethodId × Array Value × List Frame × Method × Code
abbrev Cx.p (E : Cx) : Program := E.1
abbrev Cx.l (E : Cx) : Launch := E.2.1
abbrev Cx.e (E : Cx) : Env := E.2.2.1
abbrev Cx.s (E : Cx) : State := E.2.2.2.1
abbrev Cx.m (E : Cx) : MethodId := E.2.2.2.2.1
abbrev Cx.args (E : Cx) : Array Value := E.2.2.2.2.2.1
abbrev Cx.below (E : Cx) : List Frame := E.2.2.2.2.2.2.1
abbrev Cx.meth (E : Cx) : Method := E.2.2.2.2.2.2.2.1
abbrev Cx.c (E : Cx) : Code := E.2.2.2.2.2.2.2.2
/-- a method's own figures: its name, bytes, locals, return type, room -/
abbrev Mt : Type := MethodName × ByteArray × Nat × Option FieldType × Room
abbrev Mt.y (k : Mt) : MethodName := k.1
abbrev Mt.bytes (k : Mt) : ByteArray := k.2.1
abbrev Mt.maxL (k : Mt) : Nat := k.2.2.1
abbrev Mt.ret (k : Mt) : Option FieldType := k.2.2.2.1
abbrev Mt.rm (k : Mt) : Room := k.2.2.2.2
/-- the run from S ends, as G says -/
def Go (E : Cx) (G : State → Outcome → Prop) (S : State) : Prop := ∃ s₂ o, Steps E.p.tables E.e E.below S s₂ ∧ s₂.status = .running ∧ Ended s₂ E.below o ∧ G s₂ o
abbrev Fm (E : Cx) (T : State) (pc : Nat) (Ls : Array Slot) (st : List Value) : State := T.setTop (mkF E.m pc Ls st)
theorem nb {a b : Nat} (h : Nat.ble a b = true) : a ≤ b := Nat.le_of_ble_eq_true h
theorem Go.step {E : Cx} {G : State → Outcome → Prop} {S S' : State} (g : Go E G S') (k : ∀ t, Steps E.p.tables E.e E.below S' t → Steps E.p.tables E.e E.below S t) : Go E G S := by
  obtain ⟨s₂, o, h1, h2⟩ := g
  exact ⟨s₂, o, k _ h1, h2⟩
theorem Go.mono {E : Cx} {G G' : State → Outcome → Prop} {S : State} (g : Go E G S) (k : ∀ t o, G t o → G' t o) : Go E G' S := by
  obtain ⟨s₂, o, h1, h2, h3, h4⟩ := g
  exact ⟨s₂, o, h1, h2, h3, k _ _ h4⟩
/-- where a walk stands: its tables' start Z, the heap h, what it has made at the most; what it wrote lies at or above n0 -/
def On (k : Mt) (Z : State) (n0 : Nat) (E : Cx) (T : State) (h : Heap) (cells slots : Nat) : Prop :=
  (E.p.tables.exec = Jvm.exec ∧ E.c.code = k.bytes ∧ E.c.maxLocals = k.maxL ∧ E.s.vm.findClass k.y.cls = some E.m.cls ∧ E.meth.sig.returnType = k.ret ∧ E.meth.locks = false ∧ Z.Warmed39 E.s.vm ∧ E.meth.name = k.y.name ∧ E.s.methodNamed? k.y = some E.m) ∧ T.heap = h ∧
  ∃ locs cells' slots', cells' ≤ cells ∧ slots' ≤ slots ∧ Fr n0 locs ∧ Stand E.p E.l E.e k.rm E.s E.m E.args E.below E.meth E.c T locs cells' slots'
section
variable {k : Mt} {Z : State} {n0 : Nat} {E : Cx} {T : State} {h : Heap} {cells slots : Nat} {G : State → Outcome → Prop} {a0 : Array Value} {pc pc' : Nat} {Ls : Array Slot} {st : List Value}
theorem On.exec (W : On k Z n0 E T h cells slots) : E.p.tables.exec = Jvm.exec := W.1.1
theorem On.bytes (W : On k Z n0 E T h cells slots) : E.c.code = k.bytes := W.1.2.1
theorem On.maxL (W : On k Z n0 E T h cells slots) : E.c.maxLocals = k.maxL := W.1.2.2.1
theorem On.own (W : On k Z n0 E T h cells slots) : E.s.vm.findClass k.y.cls = some E.m.cls := W.1.2.2.2.1
theorem On.ret (W : On k Z n0 E T h cells slots) : E.meth.sig.returnType = k.ret := W.1.2.2.2.2.1
theorem On.locks (W : On k Z n0 E T h cells slots) : E.meth.locks = false := W.1.2.2.2.2.2.1
theorem On.hZ (W : On k Z n0 E T h cells slots) : Z.Warmed39 E.s.vm := W.1.2.2.2.2.2.2.1
theorem On.nm (W : On k Z n0 E T h cells slots) : E.meth.name = k.y.name := W.1.2.2.2.2.2.2.2.1
theorem On.named (W : On k Z n0 E T h cells slots) : E.s.methodNamed? k.y = some E.m := W.1.2.2.2.2.2.2.2.2
theorem On.heap (W : On k Z n0 E T h cells slots) : T.heap = h := W.2.1
theorem On.here (W : On k Z n0 E T h cells slots) : At T E.m E.c E.below := by obtain ⟨-, -, _, _, _, -, -, -, X⟩ := W; exact X.here
theorem On.mono {cells' slots' : Nat} (W : On k Z n0 E T h cells slots) (h1 : cells ≤ cells') (h2 : slots ≤ slots') : On k Z n0 E T h cells' slots' := by
  obtain ⟨q, e, L, a, b, ha, hb, r⟩ := W; exact ⟨q, e, L, a, b, Nat.le_trans ha h1, Nat.le_trans hb h2, r⟩
theorem On.sub {h' : Heap} (W : On k Z n0 E T h cells slots) (q : h = h') : On k Z n0 E T h' cells slots := q ▸ W
theorem On.heq {h' : Heap} (W : On k Z n0 E T h cells slots) (q : h' = h) : On k Z n0 E T h' cells slots := q.symm ▸ W
theorem go_iloadN (W : On k Z n0 E T h cells slots) {i : Fin 4} {v : Int32} (hd : decode k.bytes pc = .ok (.iload_n i, 1)) (hl : Ls[i.val]? = some (.val (.int v))) (hp : pc + 1 = pc') (g : Go E G (Fm E T pc' Ls (.int v :: st))) : Go E G (Fm E T pc Ls st) := by
  subst hp; exact g.step fun t r => XS.iloadN W.here W.exec rfl (hb W.bytes hd) hl r
theorem go_iload (W : On k Z n0 E T h cells slots) {i : Nat} {v : Int32} (hd : decode k.bytes pc = .ok (.iload i, 2)) (hl : Ls[i]? = some (.val (.int v))) (hp : pc + 2 = pc') (g : Go E G (Fm E T pc' Ls (.int v :: st))) : Go E G (Fm E T pc Ls st) := by
  subst hp; exact g.step fun t r => XS.iload W.here W.exec rfl (hb W.bytes hd) hl r
theorem go_istoreN (W : On k Z n0 E T h cells slots) {i : Fin 4} {v : Int32} {l' : Array Slot} (hd : decode k.bytes pc = .ok (.istore_n i, 1)) (hl : storeLocals Ls i.val (.int v) = some l') (hp : pc + 1 = pc') (g : Go E G (Fm E T pc' l' st)) : Go E G (Fm E T pc Ls (.int v :: st)) := by
  subst hp; exact g.step fun t r => XS.istoreN W.here W.exec rfl (hb W.bytes hd) rfl hl r
theorem go_istore (W : On k Z n0 E T h cells slots) {i : Nat} {v : Int32} {l' : Array Slot} (hd : decode k.bytes pc = .ok (.istore i, 2)) (hl : storeLocals Ls i (.int v) = some l') (hp : pc + 2 = pc') (g : Go E G (Fm E T pc' l' st)) : Go E G (Fm E T pc Ls (.int v :: st)) := by
  subst hp; exact g.step fun t r => XS.istore W.here W.exec rfl (hb W.bytes hd) rfl hl r
theorem go_lloadN (W : On k Z n0 E T h cells slots) {i : Fin 4} {v : Int64} (hd : decode k.bytes pc = .ok (.lload_n i, 1)) (hl : Ls[i.val]? = some (.val (.long v))) (hp : pc + 1 = pc') (g : Go E G (Fm E T pc' Ls (.long v :: st))) : Go E G (Fm E T pc Ls st) := by
  subst hp; exact g.step fun t r => XS.lloadN W.here W.exec rfl (hb W.bytes hd) hl r
theorem go_lload (W : On k Z n0 E T h cells slots) {i : Nat} {v : Int64} (hd : decode k.bytes pc = .ok (.lload i, 2)) (hl : Ls[i]? = some (.val (.long v))) (hp : pc + 2 = pc') (g : Go E G (Fm E T pc' Ls (.long v :: st))) : Go E G (Fm E T pc Ls st) := by
  subst hp; exact g.step fun t r => XS.lload W.here W.exec rfl (hb W.bytes hd) hl r
theorem go_lstoreN (W : On k Z n0 E T h cells slots) {i : Fin 4} {v : Int64} {l' : Array Slot} (hd : decode k.bytes pc = .ok (.lstore_n i, 1)) (hl : storeLocals Ls i.val (.long v) = some l') (hp : pc + 1 = pc') (g : Go E G (Fm E T pc' l' st)) : Go E G (Fm E T pc Ls (.long v :: st)) := by
  subst hp; exact g.step fun t r => XS.lstoreN W.here W.exec rfl (hb W.bytes hd) rfl hl r
theorem go_lstore (W : On k Z n0 E T h cells slots) {i : Nat} {v : Int64} {l' : Array Slot} (hd : decode k.bytes pc = .ok (.lstore i, 2)) (hl : storeLocals Ls i (.long v) = some l') (hp : pc + 2 = pc') (g : Go E G (Fm E T pc' l' st)) : Go E G (Fm E T pc Ls (.long v :: st)) := by
  subst hp; exact g.step fun t r => XS.lstore W.here W.exec rfl (hb W.bytes hd) rfl hl r
theorem go_aloadN (W : On k Z n0 E T h cells slots) {i : Fin 4} {v : Value} (hd : decode k.bytes pc = .ok (.aload_n i, 1)) (hl : Ls[i.val]? = some (.val v)) (hv : v.isRef = true) (hp : pc + 1 = pc') (g : Go E G (Fm E T pc' Ls (v :: st))) : Go E G (Fm E T pc Ls st) := by
  subst hp; exact g.step fun t r => XS.aloadN W.here W.exec rfl (hb W.bytes hd) hl hv r
theorem go_aload (W : On k Z n0 E T h cells slots) {i : Nat} {v : Value} (hd : decode k.bytes pc = .ok (.aload i, 2)) (hl : Ls[i]? = some (.val v)) (hv : v.isRef = true) (hp : pc + 2 = pc') (g : Go E G (Fm E T pc' Ls (v :: st))) : Go E G (Fm E T pc Ls st) := by
  subst hp; exact g.step fun t r => XS.aload W.here W.exec rfl (hb W.bytes hd) hl hv r
theorem go_astoreN (W : On k Z n0 E T h cells slots) {i : Fin 4} {v : Value} {l' : Array Slot} (hd : decode k.bytes pc = .ok (.astore_n i, 1)) (hv : v.isRef = true) (hl : storeLocals Ls i.val v = some l') (hp : pc + 1 = pc') (g : Go E G (Fm E T pc' l' st)) : Go E G (Fm E T pc Ls (v :: st)) := by
  subst hp; exact g.step fun t r => XS.astoreN W.here W.exec rfl (hb W.bytes hd) rfl hv hl r
theorem go_astore (W : On k Z n0 E T h cells slots) {i : Nat} {v : Value} {l' : Array Slot} (hd : decode k.bytes pc = .ok (.astore i, 2)) (hv : v.isRef = true) (hl : storeLocals Ls i v = some l') (hp : pc + 2 = pc') (g : Go E G (Fm E T pc' l' st)) : Go E G (Fm E T pc Ls (v :: st)) := by
  subst hp; exact g.step fun t r => XS.astore W.here W.exec rfl (hb W.bytes hd) rfl hv hl r
theorem go_iconst (W : On k Z n0 E T h cells slots) {i : Int} {z : Int32} (hd : decode k.bytes pc = .ok (.iconst i, 1)) (hz : Int32.ofInt i = z) (hp : pc + 1 = pc') (g : Go E G (Fm E T pc' Ls (.int z :: st))) : Go E G (Fm E T pc Ls st) := by
  subst hp; exact g.step fun t r => XS.iconst W.here W.exec rfl (hb W.bytes hd) (hz.symm ▸ r)
theorem go_bipush (W : On k Z n0 E T h cells slots) {i : Int} {z : Int32} (hd : decode k.bytes pc = .ok (.bipush i, 2)) (hz : (Int8.ofInt i).toInt32 = z) (hp : pc + 2 = pc') (g : Go E G (Fm E T pc' Ls (.int z :: st))) : Go E G (Fm E T pc Ls st) := by
  subst hp; exact g.step fun t r => XS.bipush W.here W.exec rfl (hb W.bytes hd) (hz.symm ▸ r)
theorem go_sipush (W : On k Z n0 E T h cells slots) {i : Int} {z : Int32} (hd : decode k.bytes pc = .ok (.sipush i, 3)) (hz : (Int16.ofInt i).toInt32 = z) (hp : pc + 3 = pc') (g : Go E G (Fm E T pc' Ls (.int z :: st))) : Go E G (Fm E T pc Ls st) := by
  subst hp; exact g.step fun t r => XS.sipush W.here W.exec rfl (hb W.bytes hd) (hz.symm ▸ r)
theorem go_lconst (W : On k Z n0 E T h cells slots) {i : Fin 2} {z : Int64} (hd : decode k.bytes pc = .ok (.lconst i, 1)) (hz : Int64.ofNat i = z) (hp : pc + 1 = pc') (g : Go E G (Fm E T pc' Ls (.long z :: st))) : Go E G (Fm E T pc Ls st) := by
  subst hp; exact g.step fun t r => XS.lconst W.here W.exec rfl (hb W.bytes hd) (hz.symm ▸ r)
theorem go_aconstNull (W : On k Z n0 E T h cells slots)  (hd : decode k.bytes pc = .ok (.aconst_null, 1))  (hp : pc + 1 = pc') (g : Go E G (Fm E T pc' Ls (.null :: st))) : Go E G (Fm E T pc Ls st) := by
  subst hp; exact g.step fun t r => XS.aconstNull W.here W.exec rfl (hb W.bytes hd) r
theorem go_iadd (W : On k Z n0 E T h cells slots) {x y : Int32} (hd : decode k.bytes pc = .ok (.iadd, 1))  (hp : pc + 1 = pc') (g : Go E G (Fm E T pc' Ls (.int (x + y) :: st))) : Go E G (Fm E T pc Ls (.int y :: .int x :: st)) := by
  subst hp; exact g.step fun t r => XS.iadd W.here W.exec rfl (hb W.bytes hd) rfl r
theorem go_ladd (W : On k Z n0 E T h cells slots) {x y : Int64} (hd : decode k.bytes pc = .ok (.ladd, 1))  (hp : pc + 1 = pc') (g : Go E G (Fm E T pc' Ls (.long (x + y) :: st))) : Go E G (Fm E T pc Ls (.long y :: .long x :: st)) := by
  subst hp; exact g.step fun t r => XS.ladd W.here W.exec rfl (hb W.bytes hd) rfl r
theorem go_isub (W : On k Z n0 E T h cells slots) {x y : Int32} (hd : decode k.bytes pc = .ok (.isub, 1))  (hp : pc + 1 = pc') (g : Go E G (Fm E T pc' Ls (.int (x - y) :: st))) : Go E G (Fm E T pc Ls (.int y :: .int x :: st)) := by
  subst hp; exact g.step fun t r => XS.isub W.here W.exec rfl (hb W.bytes hd) rfl r
theorem go_lsub (W : On k Z n0 E T h cells slots) {x y : Int64} (hd : decode k.bytes pc = .ok (.lsub, 1))  (hp : pc + 1 = pc') (g : Go E G (Fm E T pc' Ls (.long (x - y) :: st))) : Go E G (Fm E T pc Ls (.long y :: .long x :: st)) := by
  subst hp; exact g.step fun t r => XS.lsub W.here W.exec rfl (hb W.bytes hd) rfl r
theorem go_imul (W : On k Z n0 E T h cells slots) {x y : Int32} (hd : decode k.bytes pc = .ok (.imul, 1))  (hp : pc + 1 = pc') (g : Go E G (Fm E T pc' Ls (.int (x * y) :: st))) : Go E G (Fm E T pc Ls (.int y :: .int x :: st)) := by
  subst hp; exact g.step fun t r => XS.imul W.here W.exec rfl (hb W.bytes hd) rfl r
theorem go_lmul (W : On k Z n0 E T h cells slots) {x y : Int64} (hd : decode k.bytes pc = .ok (.lmul, 1))  (hp : pc + 1 = pc') (g : Go E G (Fm E T pc' Ls (.long (x * y) :: st))) : Go E G (Fm E T pc Ls (.long y :: .long x :: st)) := by
  subst hp; exact g.step fun t r => XS.lmul W.here W.exec rfl (hb W.bytes hd) rfl r
theorem go_iand (W : On k Z n0 E T h cells slots) {x y : Int32} (hd : decode k.bytes pc = .ok (.iand, 1))  (hp : pc + 1 = pc') (g : Go E G (Fm E T pc' Ls (.int (x &&& y) :: st))) : Go E G (Fm E T pc Ls (.int y :: .int x :: st)) := by
  subst hp; exact g.step fun t r => XS.iand W.here W.exec rfl (hb W.bytes hd) rfl r
theorem go_land (W : On k Z n0 E T h cells slots) {x y : Int64} (hd : decode k.bytes pc = .ok (.land, 1))  (hp : pc + 1 = pc') (g : Go E G (Fm E T pc' Ls (.long (x &&& y) :: st))) : Go E G (Fm E T pc Ls (.long y :: .long x :: st)) := by
  subst hp; exact g.step fun t r => XS.land W.here W.exec rfl (hb W.bytes hd) rfl r
theorem go_ior (W : On k Z n0 E T h cells slots) {x y : Int32} (hd : decode k.bytes pc = .ok (.ior, 1))  (hp : pc + 1 = pc') (g : Go E G (Fm E T pc' Ls (.int (x ||| y) :: st))) : Go E G (Fm E T pc Ls (.int y :: .int x :: st)) := by
  subst hp; exact g.step fun t r => XS.ior W.here W.exec rfl (hb W.bytes hd) rfl r
theorem go_lor (W : On k Z n0 E T h cells slots) {x y : Int64} (hd : decode k.bytes pc = .ok (.lor, 1))  (hp : pc + 1 = pc') (g : Go E G (Fm E T pc' Ls (.long (x ||| y) :: st))) : Go E G (Fm E T pc Ls (.long y :: .long x :: st)) := by
  subst hp; exact g.step fun t r => XS.lor W.here W.exec rfl (hb W.bytes hd) rfl r
theorem go_ixor (W : On k Z n0 E T h cells slots) {x y : Int32} (hd : decode k.bytes pc = .ok (.ixor, 1))  (hp : pc + 1 = pc') (g : Go E G (Fm E T pc' Ls (.int (x ^^^ y) :: st))) : Go E G (Fm E T pc Ls (.int y :: .int x :: st)) := by
  subst hp; exact g.step fun t r => XS.ixor W.here W.exec rfl (hb W.bytes hd) rfl r
theorem go_lxor (W : On k Z n0 E T h cells slots) {x y : Int64} (hd : decode k.bytes pc = .ok (.lxor, 1))  (hp : pc + 1 = pc') (g : Go E G (Fm E T pc' Ls (.long (x ^^^ y) :: st))) : Go E G (Fm E T pc Ls (.long y :: .long x :: st)) := by
  subst hp; exact g.step fun t r => XS.lxor W.here W.exec rfl (hb W.bytes hd) rfl r
theorem go_iaddZ (W : On k Z n0 E T h cells slots) {x y z : Int32} (hd : decode k.bytes pc = .ok (.iadd, 1)) (hz : x + y = z) (hp : pc + 1 = pc') (g : Go E G (Fm E T pc' Ls (.int z :: st))) : Go E G (Fm E T pc Ls (.int y :: .int x :: st)) := by
  subst hp; exact g.step fun t r => XS.iadd W.here W.exec rfl (hb W.bytes hd) rfl (hz.symm ▸ r)
theorem go_isubZ (W : On k Z n0 E T h cells slots) {x y z : Int32} (hd : decode k.bytes pc = .ok (.isub, 1)) (hz : x - y = z) (hp : pc + 1 = pc') (g : Go E G (Fm E T pc' Ls (.int z :: st))) : Go E G (Fm E T pc Ls (.int y :: .int x :: st)) := by
  subst hp; exact g.step fun t r => XS.isub W.here W.exec rfl (hb W.bytes hd) rfl (hz.symm ▸ r)
theorem go_imulZ (W : On k Z n0 E T h cells slots) {x y z : Int32} (hd : decode k.bytes pc = .ok (.imul, 1)) (hz : x * y = z) (hp : pc + 1 = pc') (g : Go E G (Fm E T pc' Ls (.int z :: st))) : Go E G (Fm E T pc Ls (.int y :: .int x :: st)) := by
  subst hp; exact g.step fun t r => XS.imul W.here W.exec rfl (hb W.bytes hd) rfl (hz.symm ▸ r)
theorem go_iandZ (W : On k Z n0 E T h cells slots) {x y z : Int32} (hd : decode k.bytes pc = .ok (.iand, 1)) (hz : x &&& y = z) (hp : pc + 1 = pc') (g : Go E G (Fm E T pc' Ls (.int z :: st))) : Go E G (Fm E T pc Ls (.int y :: .int x :: st)) := by
  subst hp; exact g.step fun t r => XS.iand W.here W.exec rfl (hb W.bytes hd) rfl (hz.symm ▸ r)
theorem go_iorZ (W : On k Z n0 E T h cells slots) {x y z : Int32} (hd : decode k.bytes pc = .ok (.ior, 1)) (hz : x ||| y = z) (hp : pc + 1 = pc') (g : Go E G (Fm E T pc' Ls (.int z :: st))) : Go E G (Fm E T pc Ls (.int y :: .int x :: st)) := by
  subst hp; exact g.step fun t r => XS.ior W.here W.exec rfl (hb W.bytes hd) rfl (hz.symm ▸ r)
theorem go_ixorZ (W : On k Z n0 E T h cells slots) {x y z : Int32} (hd : decode k.bytes pc = .ok (.ixor, 1)) (hz : x ^^^ y = z) (hp : pc + 1 = pc') (g : Go E G (Fm E T pc' Ls (.int z :: st))) : Go E G (Fm E T pc Ls (.int y :: .int x :: st)) := by
  subst hp; exact g.step fun t r => XS.ixor W.here W.exec rfl (hb W.bytes hd) rfl (hz.symm ▸ r)
theorem go_idiv (W : On k Z n0 E T h cells slots) {x y : Int32} (hd : decode k.bytes pc = .ok (.idiv, 1)) (hy : y ≠ 0) (hp : pc + 1 = pc') (g : Go E G (Fm E T pc' Ls (.int (x / y) :: st))) : Go E G (Fm E T pc Ls (.int y :: .int x :: st)) := by
  subst hp; exact g.step fun t r => XS.idiv W.here W.exec rfl (hb W.bytes hd) rfl hy r
theorem go_irem (W : On k Z n0 E T h cells slots) {x y : Int32} (hd : decode k.bytes pc = .ok (.irem, 1)) (hy : y ≠ 0) (hp : pc + 1 = pc') (g : Go E G (Fm E T pc' Ls (.int (x % y) :: st))) : Go E G (Fm E T pc Ls (.int y :: .int x :: st)) := by
  obtain ⟨C, hh, _, _, _, -, -, -, X⟩ := W
  subst hp; exact g.step fun t r => iremM X C.1 rfl (hb C.2.1 hd) rfl hy r
theorem go_ineg (W : On k Z n0 E T h cells slots) {x : Int32} (hd : decode k.bytes pc = .ok (.ineg, 1))  (hp : pc + 1 = pc') (g : Go E G (Fm E T pc' Ls (.int (-x) :: st))) : Go E G (Fm E T pc Ls (.int x :: st)) := by
  subst hp; exact g.step fun t r => XS.ineg W.here W.exec rfl (hb W.bytes hd) rfl r
theorem go_ishl (W : On k Z n0 E T h cells slots) {x y : Int32} (hd : decode k.bytes pc = .ok (.ishl, 1))  (hp : pc + 1 = pc') (g : Go E G (Fm E T pc' Ls (.int (x <<< (y &&& 31)) :: st))) : Go E G (Fm E T pc Ls (.int y :: .int x :: st)) := by
  subst hp; exact g.step fun t r => XS.ishl W.here W.exec rfl (hb W.bytes hd) rfl r
theorem go_ishr (W : On k Z n0 E T h cells slots) {x y : Int32} (hd : decode k.bytes pc = .ok (.ishr, 1))  (hp : pc + 1 = pc') (g : Go E G (Fm E T pc' Ls (.int (x >>> (y &&& 31)) :: st))) : Go E G (Fm E T pc Ls (.int y :: .int x :: st)) := by
  subst hp; exact g.step fun t r => XS.ishr W.here W.exec rfl (hb W.bytes hd) rfl r
theorem go_iushr (W : On k Z n0 E T h cells slots) {x y : Int32} (hd : decode k.bytes pc = .ok (.iushr, 1))  (hp : pc + 1 = pc') (g : Go E G (Fm E T pc' Ls (.int ((x.toUInt32 >>> (y &&& 31).toUInt32).toInt32) :: st))) : Go E G (Fm E T pc Ls (.int y :: .int x :: st)) := by
  subst hp; exact g.step fun t r => XS.iushr W.here W.exec rfl (hb W.bytes hd) rfl r
theorem go_lshl (W : On k Z n0 E T h cells slots) {x : Int64} {y : Int32} (hd : decode k.bytes pc = .ok (.lshl, 1))  (hp : pc + 1 = pc') (g : Go E G (Fm E T pc' Ls (.long (x <<< (y &&& 0x3f).toInt64) :: st))) : Go E G (Fm E T pc Ls (.int y :: .long x :: st)) := by
  subst hp; exact g.step fun t r => XS.lshl W.here W.exec rfl (hb W.bytes hd) rfl r
theorem go_lshr (W : On k Z n0 E T h cells slots) {x : Int64} {y : Int32} (hd : decode k.bytes pc = .ok (.lshr, 1))  (hp : pc + 1 = pc') (g : Go E G (Fm E T pc' Ls (.long (x >>> (y &&& 0x3f).toInt64) :: st))) : Go E G (Fm E T pc Ls (.int y :: .long x :: st)) := by
  subst hp; exact g.step fun t r => XS.lshr W.here W.exec rfl (hb W.bytes hd) rfl r
theorem go_lushr (W : On k Z n0 E T h cells slots) {x : Int64} {y : Int32} (hd : decode k.bytes pc = .ok (.lushr, 1))  (hp : pc + 1 = pc') (g : Go E G (Fm E T pc' Ls (.long ((x.toUInt64 >>> (y &&& 0x3f).toInt64.toUInt64).toInt64) :: st))) : Go E G (Fm E T pc Ls (.int y :: .long x :: st)) := by
  subst hp; exact g.step fun t r => XS.lushr W.here W.exec rfl (hb W.bytes hd) rfl r
theorem go_i2l (W : On k Z n0 E T h cells slots) {x : Int32} (hd : decode k.bytes pc = .ok (.i2l, 1))  (hp : pc + 1 = pc') (g : Go E G (Fm E T pc' Ls (.long (x.toInt64) :: st))) : Go E G (Fm E T pc Ls (.int x :: st)) := by
  subst hp; exact g.step fun t r => XS.i2l W.here W.exec rfl (hb W.bytes hd) rfl r
theorem go_l2i (W : On k Z n0 E T h cells slots) {x : Int64} (hd : decode k.bytes pc = .ok (.l2i, 1))  (hp : pc + 1 = pc') (g : Go E G (Fm E T pc' Ls (.int (x.toInt32) :: st))) : Go E G (Fm E T pc Ls (.long x :: st)) := by
  subst hp; exact g.step fun t r => XS.l2i W.here W.exec rfl (hb W.bytes hd) rfl r
theorem go_i2b (W : On k Z n0 E T h cells slots) {x : Int32} (hd : decode k.bytes pc = .ok (.i2b, 1))  (hp : pc + 1 = pc') (g : Go E G (Fm E T pc' Ls (.int (x.toInt8.toInt32) :: st))) : Go E G (Fm E T pc Ls (.int x :: st)) := by
  subst hp; exact g.step fun t r => XS.i2b W.here W.exec rfl (hb W.bytes hd) rfl r
theorem go_i2s (W : On k Z n0 E T h cells slots) {x : Int32} (hd : decode k.bytes pc = .ok (.i2s, 1))  (hp : pc + 1 = pc') (g : Go E G (Fm E T pc' Ls (.int (x.toInt16.toInt32) :: st))) : Go E G (Fm E T pc Ls (.int x :: st)) := by
  subst hp; exact g.step fun t r => XS.i2s W.here W.exec rfl (hb W.bytes hd) rfl r
theorem go_i2c (W : On k Z n0 E T h cells slots) {x : Int32} (hd : decode k.bytes pc = .ok (.i2c, 1))  (hp : pc + 1 = pc') (g : Go E G (Fm E T pc' Ls (.int (x.toUInt32.toUInt16.toUInt32.toInt32) :: st))) : Go E G (Fm E T pc Ls (.int x :: st)) := by
  subst hp; exact g.step fun t r => XS.i2c W.here W.exec rfl (hb W.bytes hd) rfl r
theorem go_lneg (W : On k Z n0 E T h cells slots) {x : Int64} (hd : decode k.bytes pc = .ok (.lneg, 1))  (hp : pc + 1 = pc') (g : Go E G (Fm E T pc' Ls (.long (-x) :: st))) : Go E G (Fm E T pc Ls (.long x :: st)) := by
  subst hp; exact g.step fun t r => XS.lneg W.here W.exec rfl (hb W.bytes hd) rfl r
theorem go_lcmp (W : On k Z n0 E T h cells slots) {x y : Int64} (hd : decode k.bytes pc = .ok (.lcmp, 1))  (hp : pc + 1 = pc') (g : Go E G (Fm E T pc' Ls (.int (lcmpW x y) :: st))) : Go E G (Fm E T pc Ls (.long y :: .long x :: st)) := by
  subst hp; exact g.step fun t r => XS.lcmp W.here W.exec rfl (hb W.bytes hd) rfl r
theorem go_dup (W : On k Z n0 E T h cells slots) {x : Value} (hd : decode k.bytes pc = .ok (.dup, 1)) (hc : x.category = 1) (hp : pc + 1 = pc') (g : Go E G (Fm E T pc' Ls (x :: x :: st))) : Go E G (Fm E T pc Ls (x :: st)) := by
  subst hp; exact g.step fun t r => XS.dup W.here W.exec rfl (hb W.bytes hd) rfl hc r
theorem go_pop (W : On k Z n0 E T h cells slots) {x : Value} (hd : decode k.bytes pc = .ok (.pop, 1)) (hc : x.category = 1) (hp : pc + 1 = pc') (g : Go E G (Fm E T pc' Ls st)) : Go E G (Fm E T pc Ls (x :: st)) := by
  subst hp; exact g.step fun t r => XS.pop W.here W.exec rfl (hb W.bytes hd) rfl hc r
theorem go_dupX1 (W : On k Z n0 E T h cells slots) {x y : Value} (hd : decode k.bytes pc = .ok (.dup_x1, 1)) (hc : x.category = 1) (hc' : y.category = 1) (hp : pc + 1 = pc') (g : Go E G (Fm E T pc' Ls (x :: y :: x :: st))) : Go E G (Fm E T pc Ls (x :: y :: st)) := by
  subst hp; exact g.step fun t r => XS.dupX1 W.here W.exec rfl (hb W.bytes hd) rfl hc hc' r
theorem go_dup2 (W : On k Z n0 E T h cells slots) {x y : Value} (hd : decode k.bytes pc = .ok (.dup2, 1)) (hc : x.category = 1) (hc' : y.category = 1) (hp : pc + 1 = pc') (g : Go E G (Fm E T pc' Ls (x :: y :: x :: y :: st))) : Go E G (Fm E T pc Ls (x :: y :: st)) := by
  subst hp; exact g.step fun t r => XT.dup2 W.here W.exec rfl (hb W.bytes hd) rfl hc hc' r
theorem go_iinc (W : On k Z n0 E T h cells slots) {i : Nat} {cst : Int} {x z : Int32} {l' : Array Slot} (hd : decode k.bytes pc = .ok (.iinc i cst, 3)) (hl : Ls[i]? = some (.val (.int x))) (hz : x + Int32.ofInt cst = z) (hl' : storeLocals Ls i (.int z) = some l') (hp : pc + 3 = pc') (g : Go E G (Fm E T pc' l' st)) : Go E G (Fm E T pc Ls st) := by
  subst hp; exact g.step fun t r => XS.iinc W.here W.exec rfl (hb W.bytes hd) hl (hz.symm ▸ hl') r
theorem go_dupX2 (W : On k Z n0 E T h cells slots) {x y z : Value} (hd : decode k.bytes pc = .ok (.dup_x2, 1)) (h1 : x.category = 1) (h2 : y.category = 1) (h3 : z.category = 1) (hp : pc + 1 = pc') (g : Go E G (Fm E T pc' Ls (x :: y :: z :: x :: st))) : Go E G (Fm E T pc Ls (x :: y :: z :: st)) := by
  subst hp
  refine g.step fun t r => ?_
  have q := W.here; have hx := W.exec; have hd' := hb W.bytes hd
  show Steps E.p.tables E.e E.below (T.setTop { method := E.m, pc := pc, locals := Ls, stack := x :: y :: z :: st, locked := none }) t
  jvm_step q [q.top, hx, hd', h1, h2, h3]
  exact r
theorem go_goto (W : On k Z n0 E T h cells slots) {o : Int} (hd : decode k.bytes pc = .ok (.goto o, 3)) (ho : 0 ≤ (pc : Int) + o) (hp : ((pc : Int) + o).toNat = pc') (g : Go E G (Fm E T pc' Ls st)) : Go E G (Fm E T pc Ls st) := by
  exact g.step fun t r => XS.goto W.here W.exec rfl rfl (hb W.bytes hd) ho hp r
theorem go_icmp_lt (W : On k Z n0 E T h cells slots) {x y : Int32} {o : Int} {pt pf : Nat} (hd : decode k.bytes pc = .ok (.if_icmp .lt o, 3)) (ho : 0 ≤ (pc : Int) + o) (hp : ((pc : Int) + o).toNat = pt) (hq : pc + 3 = pf) (g1 : x < y → Go E G (Fm E T pt Ls st)) (g2 : ¬ x < y → Go E G (Fm E T pf Ls st)) : Go E G (Fm E T pc Ls (.int y :: .int x :: st)) := by
  subst hq
  by_cases q : x < y
  · exact (g1 q).step fun t r => XS.icmpYes W.here W.exec rfl rfl (hb W.bytes hd) rfl (tlt q).1 ho hp r
  · exact (g2 q).step fun t r => XS.icmpNo W.here W.exec rfl (hb W.bytes hd) rfl (flt q).1 r
theorem go_if_lt (W : On k Z n0 E T h cells slots) {x : Int32} {o : Int} {pt pf : Nat} (hd : decode k.bytes pc = .ok (.ifCond .lt o, 3)) (ho : 0 ≤ (pc : Int) + o) (hp : ((pc : Int) + o).toNat = pt) (hq : pc + 3 = pf) (g1 : x < 0 → Go E G (Fm E T pt Ls st)) (g2 : ¬ x < 0 → Go E G (Fm E T pf Ls st)) : Go E G (Fm E T pc Ls (.int x :: st)) := by
  subst hq
  by_cases q : x < 0
  · exact (g1 q).step fun t r => XS.ifYes W.here W.exec rfl rfl (hb W.bytes hd) rfl ((if0 _ _).trans (tlt q).1) ho hp r
  · exact (g2 q).step fun t r => XS.ifNo W.here W.exec rfl (hb W.bytes hd) rfl ((if0 _ _).trans (flt q).1) r
theorem go_icmp_ge (W : On k Z n0 E T h cells slots) {x y : Int32} {o : Int} {pt pf : Nat} (hd : decode k.bytes pc = .ok (.if_icmp .ge o, 3)) (ho : 0 ≤ (pc : Int) + o) (hp : ((pc : Int) + o).toNat = pt) (hq : pc + 3 = pf) (g1 : ¬ x < y → Go E G (Fm E T pt Ls st)) (g2 : x < y → Go E G (Fm E T pf Ls st)) : Go E G (Fm E T pc Ls (.int y :: .int x :: st)) := by
  subst hq
  by_cases q : ¬ x < y
  · exact (g1 q).step fun t r => XS.icmpYes W.here W.exec rfl rfl (hb W.bytes hd) rfl (flt q).2.1 ho hp r
  · replace q := Decidable.not_not.mp q; exact (g2 q).step fun t r => XS.icmpNo W.here W.exec rfl (hb W.bytes hd) rfl (tlt q).2.1 r
theorem go_if_ge (W : On k Z n0 E T h cells slots) {x : Int32} {o : Int} {pt pf : Nat} (hd : decode k.bytes pc = .ok (.ifCond .ge o, 3)) (ho : 0 ≤ (pc : Int) + o) (hp : ((pc : Int) + o).toNat = pt) (hq : pc + 3 = pf) (g1 : ¬ x < 0 → Go E G (Fm E T pt Ls st)) (g2 : x < 0 → Go E G (Fm E T pf Ls st)) : Go E G (Fm E T pc Ls (.int x :: st)) := by
  subst hq
  by_cases q : ¬ x < 0
  · exact (g1 q).step fun t r => XS.ifYes W.here W.exec rfl rfl (hb W.bytes hd) rfl ((if0 _ _).trans (flt q).2.1) ho hp r
  · replace q := Decidable.not_not.mp q; exact (g2 q).step fun t r => XS.ifNo W.here W.exec rfl (hb W.bytes hd) rfl ((if0 _ _).trans (tlt q).2.1) r
theorem go_icmp_gt (W : On k Z n0 E T h cells slots) {x y : Int32} {o : Int} {pt pf : Nat} (hd : decode k.bytes pc = .ok (.if_icmp .gt o, 3)) (ho : 0 ≤ (pc : Int) + o) (hp : ((pc : Int) + o).toNat = pt) (hq : pc + 3 = pf) (g1 : y < x → Go E G (Fm E T pt Ls st)) (g2 : ¬ y < x → Go E G (Fm E T pf Ls st)) : Go E G (Fm E T pc Ls (.int y :: .int x :: st)) := by
  subst hq
  by_cases q : y < x
  · exact (g1 q).step fun t r => XS.icmpYes W.here W.exec rfl rfl (hb W.bytes hd) rfl (tlt q).2.2.1 ho hp r
  · exact (g2 q).step fun t r => XS.icmpNo W.here W.exec rfl (hb W.bytes hd) rfl (flt q).2.2.1 r
theorem go_if_gt (W : On k Z n0 E T h cells slots) {x : Int32} {o : Int} {pt pf : Nat} (hd : decode k.bytes pc = .ok (.ifCond .gt o, 3)) (ho : 0 ≤ (pc : Int) + o) (hp : ((pc : Int) + o).toNat = pt) (hq : pc + 3 = pf) (g1 : 0 < x → Go E G (Fm E T pt Ls st)) (g2 : ¬ 0 < x → Go E G (Fm E T pf Ls st)) : Go E G (Fm E T pc Ls (.int x :: st)) := by
  subst hq
  by_cases q : 0 < x
  · exact (g1 q).step fun t r => XS.ifYes W.here W.exec rfl rfl (hb W.bytes hd) rfl ((if0 _ _).trans (tlt q).2.2.1) ho hp r
  · exact (g2 q).step fun t r => XS.ifNo W.here W.exec rfl (hb W.bytes hd) rfl ((if0 _ _).trans (flt q).2.2.1) r
theorem go_icmp_le (W : On k Z n0 E T h cells slots) {x y : Int32} {o : Int} {pt pf : Nat} (hd : decode k.bytes pc = .ok (.if_icmp .le o, 3)) (ho : 0 ≤ (pc : Int) + o) (hp : ((pc : Int) + o).toNat = pt) (hq : pc + 3 = pf) (g1 : ¬ y < x → Go E G (Fm E T pt Ls st)) (g2 : y < x → Go E G (Fm E T pf Ls st)) : Go E G (Fm E T pc Ls (.int y :: .int x :: st)) := by
  subst hq
  by_cases q : ¬ y < x
  · exact (g1 q).step fun t r => XS.icmpYes W.here W.exec rfl rfl (hb W.bytes hd) rfl (flt q).2.2.2 ho hp r
  · replace q := Decidable.not_not.mp q; exact (g2 q).step fun t r => XS.icmpNo W.here W.exec rfl (hb W.bytes hd) rfl (tlt q).2.2.2 r
theorem go_if_le (W : On k Z n0 E T h cells slots) {x : Int32} {o : Int} {pt pf : Nat} (hd : decode k.bytes pc = .ok (.ifCond .le o, 3)) (ho : 0 ≤ (pc : Int) + o) (hp : ((pc : Int) + o).toNat = pt) (hq : pc + 3 = pf) (g1 : ¬ 0 < x → Go E G (Fm E T pt Ls st)) (g2 : 0 < x → Go E G (Fm E T pf Ls st)) : Go E G (Fm E T pc Ls (.int x :: st)) := by
  subst hq
  by_cases q : ¬ 0 < x
  · exact (g1 q).step fun t r => XS.ifYes W.here W.exec rfl rfl (hb W.bytes hd) rfl ((if0 _ _).trans (flt q).2.2.2) ho hp r
  · replace q := Decidable.not_not.mp q; exact (g2 q).step fun t r => XS.ifNo W.here W.exec rfl (hb W.bytes hd) rfl ((if0 _ _).trans (tlt q).2.2.2) r
theorem go_icmp_eq (W : On k Z n0 E T h cells slots) {x y : Int32} {o : Int} {pt pf : Nat} (hd : decode k.bytes pc = .ok (.if_icmp .eq o, 3)) (ho : 0 ≤ (pc : Int) + o) (hp : ((pc : Int) + o).toNat = pt) (hq : pc + 3 = pf) (g1 : x = y → Go E G (Fm E T pt Ls st)) (g2 : ¬ x = y → Go E G (Fm E T pf Ls st)) : Go E G (Fm E T pc Ls (.int y :: .int x :: st)) := by
  subst hq
  by_cases q : x = y
  · exact (g1 q).step fun t r => XS.icmpYes W.here W.exec rfl rfl (hb W.bytes hd) rfl (teq q).1 ho hp r
  · exact (g2 q).step fun t r => XS.icmpNo W.here W.exec rfl (hb W.bytes hd) rfl (feq q).1 r
theorem go_if_eq (W : On k Z n0 E T h cells slots) {x : Int32} {o : Int} {pt pf : Nat} (hd : decode k.bytes pc = .ok (.ifCond .eq o, 3)) (ho : 0 ≤ (pc : Int) + o) (hp : ((pc : Int) + o).toNat = pt) (hq : pc + 3 = pf) (g1 : x = 0 → Go E G (Fm E T pt Ls st)) (g2 : ¬ x = 0 → Go E G (Fm E T pf Ls st)) : Go E G (Fm E T pc Ls (.int x :: st)) := by
  subst hq
  by_cases q : x = 0
  · exact (g1 q).step fun t r => XS.ifYes W.here W.exec rfl rfl (hb W.bytes hd) rfl ((if0 _ _).trans (teq q).1) ho hp r
  · exact (g2 q).step fun t r => XS.ifNo W.here W.exec rfl (hb W.bytes hd) rfl ((if0 _ _).trans (feq q).1) r
theorem go_icmp_ne (W : On k Z n0 E T h cells slots) {x y : Int32} {o : Int} {pt pf : Nat} (hd : decode k.bytes pc = .ok (.if_icmp .ne o, 3)) (ho : 0 ≤ (pc : Int) + o) (hp : ((pc : Int) + o).toNat = pt) (hq : pc + 3 = pf) (g1 : ¬ x = y → Go E G (Fm E T pt Ls st)) (g2 : x = y → Go E G (Fm E T pf Ls st)) : Go E G (Fm E T pc Ls (.int y :: .int x :: st)) := by
  subst hq
  by_cases q : ¬ x = y
  · exact (g1 q).step fun t r => XS.icmpYes W.here W.exec rfl rfl (hb W.bytes hd) rfl (feq q).2 ho hp r
  · replace q := Decidable.not_not.mp q; exact (g2 q).step fun t r => XS.icmpNo W.here W.exec rfl (hb W.bytes hd) rfl (teq q).2 r
theorem go_if_ne (W : On k Z n0 E T h cells slots) {x : Int32} {o : Int} {pt pf : Nat} (hd : decode k.bytes pc = .ok (.ifCond .ne o, 3)) (ho : 0 ≤ (pc : Int) + o) (hp : ((pc : Int) + o).toNat = pt) (hq : pc + 3 = pf) (g1 : ¬ x = 0 → Go E G (Fm E T pt Ls st)) (g2 : x = 0 → Go E G (Fm E T pf Ls st)) : Go E G (Fm E T pc Ls (.int x :: st)) := by
  subst hq
  by_cases q : ¬ x = 0
  · exact (g1 q).step fun t r => XS.ifYes W.here W.exec rfl rfl (hb W.bytes hd) rfl ((if0 _ _).trans (feq q).2) ho hp r
  · replace q := Decidable.not_not.mp q; exact (g2 q).step fun t r => XS.ifNo W.here W.exec rfl (hb W.bytes hd) rfl ((if0 _ _).trans (teq q).2) r
theorem go_acmp_eq (W : On k Z n0 E T h cells slots) {x y : Value} {o : Int} {pt pf : Nat} (hd : decode k.bytes pc = .ok (.if_acmp .eq o, 3)) (h1 : x.isRef = true) (h2 : y.isRef = true) (ho : 0 ≤ (pc : Int) + o) (hp : ((pc : Int) + o).toNat = pt) (hq : pc + 3 = pf) (g1 : x = y → Go E G (Fm E T pt Ls st)) (g2 : ¬ x = y → Go E G (Fm E T pf Ls st)) : Go E G (Fm E T pc Ls (y :: x :: st)) := by
  obtain ⟨C, hh, _, _, _, -, -, -, X⟩ := W
  by_cases q : x = y
  · exact (g1 q).step fun t r => Jvm.RoadKit.acmp (g := mkF E.m pc Ls (y :: x :: st)) X C.1 rfl h1 h2 (pc0 := pc) (pc' := pt) (same := true) rfl (hb C.2.1 hd) rfl (decide_eq_true q) ho hp.symm r
  · exact (g2 q).step fun t r => Jvm.RoadKit.acmp (g := mkF E.m pc Ls (y :: x :: st)) X C.1 rfl h1 h2 (pc0 := pc) (pc' := pf) (same := false) rfl (hb C.2.1 hd) rfl (decide_eq_false q) ho hq.symm r
theorem go_acmp_ne (W : On k Z n0 E T h cells slots) {x y : Value} {o : Int} {pt pf : Nat} (hd : decode k.bytes pc = .ok (.if_acmp .ne o, 3)) (h1 : x.isRef = true) (h2 : y.isRef = true) (ho : 0 ≤ (pc : Int) + o) (hp : ((pc : Int) + o).toNat = pt) (hq : pc + 3 = pf) (g1 : ¬ x = y → Go E G (Fm E T pt Ls st)) (g2 : x = y → Go E G (Fm E T pf Ls st)) : Go E G (Fm E T pc Ls (y :: x :: st)) := by
  obtain ⟨C, hh, _, _, _, -, -, -, X⟩ := W
  by_cases q : x = y
  · exact (g2 q).step fun t r => Jvm.RoadKit.acmp (g := mkF E.m pc Ls (y :: x :: st)) X C.1 rfl h1 h2 (pc0 := pc) (pc' := pf) (same := true) rfl (hb C.2.1 hd) rfl (decide_eq_true q) ho hq.symm r
  · exact (g1 q).step fun t r => Jvm.RoadKit.acmp (g := mkF E.m pc Ls (y :: x :: st)) X C.1 rfl h1 h2 (pc0 := pc) (pc' := pt) (same := false) rfl (hb C.2.1 hd) rfl (decide_eq_false q) ho hp.symm r
theorem go_ifnull_null (W : On k Z n0 E T h cells slots) {o : Int} (hd : decode k.bytes pc = .ok (.ifnull o, 3)) (ho : 0 ≤ (pc : Int) + o) (hp : ((pc : Int) + o).toNat = pc') (g : Go E G (Fm E T pc' Ls st)) : Go E G (Fm E T pc Ls (.null :: st)) :=
  g.step fun t r => XS.ifnullYes W.here W.exec rfl rfl (hb W.bytes hd) rfl ho hp r
theorem go_ifnull_ref (W : On k Z n0 E T h cells slots) {o : Int} {b : Addr} (hd : decode k.bytes pc = .ok (.ifnull o, 3)) (hp : pc + 3 = pc') (g : Go E G (Fm E T pc' Ls st)) : Go E G (Fm E T pc Ls (.ref b :: st)) := by
  subst hp; exact g.step fun t r => XS.ifnullNo W.here W.exec rfl (hb W.bytes hd) rfl r
theorem go_ifnonnull_ref (W : On k Z n0 E T h cells slots) {o : Int} {b : Addr} (hd : decode k.bytes pc = .ok (.ifnonnull o, 3)) (ho : 0 ≤ (pc : Int) + o) (hp : ((pc : Int) + o).toNat = pc') (g : Go E G (Fm E T pc' Ls st)) : Go E G (Fm E T pc Ls (.ref b :: st)) :=
  g.step fun t r => XS.ifnonnullYes W.here W.exec rfl rfl (hb W.bytes hd) rfl ho hp r
theorem go_ifnonnull_null (W : On k Z n0 E T h cells slots) {o : Int} (hd : decode k.bytes pc = .ok (.ifnonnull o, 3)) (hp : pc + 3 = pc') (g : Go E G (Fm E T pc' Ls st)) : Go E G (Fm E T pc Ls (.null :: st)) := by
  subst hp; exact g.step fun t r => XS.ifnonnullNo W.here W.exec rfl (hb W.bytes hd) rfl r
theorem go_tswIn (W : On k Z n0 E T h cells slots) {dflt low high : Int} {offs : Array Int} {len : Nat} {o : Int} {i : Int32} (hd : decode k.bytes pc = .ok (.tableswitch dflt low high offs, len)) (hin : ¬ (i.toInt < low ∨ i.toInt > high)) (hoff : offs[(i.toInt - low).toNat]? = some o) (ho : 0 ≤ (pc : Int) + o) (hp : ((pc : Int) + o).toNat = pc') (g : Go E G (Fm E T pc' Ls st)) : Go E G (Fm E T pc Ls (.int i :: st)) :=
  g.step fun t r => XS.tswIn W.here W.exec rfl rfl (hb W.bytes hd) rfl hin hoff ho hp r
theorem go_tswOut (W : On k Z n0 E T h cells slots) {dflt low high : Int} {offs : Array Int} {len : Nat} {i : Int32} (hd : decode k.bytes pc = .ok (.tableswitch dflt low high offs, len)) (hout : i.toInt < low ∨ i.toInt > high) (ho : 0 ≤ (pc : Int) + dflt) (hp : ((pc : Int) + dflt).toNat = pc') (g : Go E G (Fm E T pc' Ls st)) : Go E G (Fm E T pc Ls (.int i :: st)) :=
  g.step fun t r => XS.tswOut W.here W.exec rfl rfl (hb W.bytes hd) rfl hout ho hp r
theorem go_ldcInt (W : On k Z n0 E T h cells slots) {index : Nat} {v : Int32} (w : (Cond.constant k.y.cls index v).before a0 Z = true) (hd : decode k.bytes pc = .ok (.ldc index, 2)) (hp : pc + 2 = pc') (g : Go E G (Fm E T pc' Ls (.int v :: st))) : Go E G (Fm E T pc Ls st) := by
  obtain ⟨C, hh, _, _, _, -, -, -, X⟩ := W
  subst hp; exact g.step fun t r => X.ldcInt C.1 C.2.2.2.1 (mvT C.2.2.2.2.2.2.1 w) (g := mkF E.m pc Ls st) rfl (hb C.2.1 hd) _ r
theorem go_ldcwInt (W : On k Z n0 E T h cells slots) {index : Nat} {v : Int32} (w : (Cond.constant k.y.cls index v).before a0 Z = true) (hd : decode k.bytes pc = .ok (.ldc_w index, 3)) (hp : pc + 3 = pc') (g : Go E G (Fm E T pc' Ls (.int v :: st))) : Go E G (Fm E T pc Ls st) := by
  obtain ⟨C, hh, _, _, _, -, -, -, X⟩ := W
  subst hp; exact g.step fun t r => X.ldcwInt C.1 C.2.2.2.1 (mvT C.2.2.2.2.2.2.1 w) (g := mkF E.m pc Ls st) rfl (hb C.2.1 hd) _ r
theorem go_ldc2Long (W : On k Z n0 E T h cells slots) {index : Nat} {v : Int64} (w : (Cond.constantLong k.y.cls index v).before a0 Z = true) (hd : decode k.bytes pc = .ok (.ldc2_w index, 3)) (hp : pc + 3 = pc') (g : Go E G (Fm E T pc' Ls (.long v :: st))) : Go E G (Fm E T pc Ls st) := by
  obtain ⟨C, hh, _, _, _, -, -, -, X⟩ := W
  subst hp; exact g.step fun t r => X.ldc2Long C.1 C.2.2.2.1 (mvT C.2.2.2.2.2.2.1 w) (g := mkF E.m pc Ls st) rfl (hb C.2.1 hd) _ r
/-! fields -/
theorem go_getF (W : On k Z n0 E T h cells slots) {R0 O n d host : String} {index : Nat} (w : (Cond.fieldLink k.y.cls index R0 n d).before a0 Z = true ∨ (Cond.fieldLinkNest k.y.cls index R0 n d host).before a0 Z = true) (via : Via Z R0 O n d) {a : Addr} {v : Value} (F : Fld Z h a O n d v)
    (hd : decode k.bytes pc = .ok (.getfield index, 3)) (hp : pc + 3 = pc') (g : ∀ T', On k Z n0 E T' h cells slots → Go E G (Fm E T' pc' Ls (v :: st))) : Go E G (Fm E T pc Ls (.ref a :: st)) := by
  obtain ⟨C, hh, L, a1, b1, ha, hb1, hF, X⟩ := W
  subst hp
  obtain ⟨T', X', e', st'⟩ := getF X C.1 C.2.2.2.2.2.2.1 C.2.2.2.1 w via hh F (g := mkF E.m pc Ls (.ref a :: st)) rfl rfl (hb C.2.1 hd)
  exact (g T' ⟨C, e', L, a1, b1, ha, hb1, hF, X'⟩).step st'
theorem go_getS (W : On k Z n0 E T h cells slots) {R0 O n d host : String} {index : Nat} (w : (Cond.fieldLink k.y.cls index R0 n d).before a0 Z = true ∨ (Cond.fieldLinkNest k.y.cls index R0 n d host).before a0 Z = true) (via : Via Z R0 O n d) {v : Value} (F : Sta Z h O n d v)
    (hd : decode k.bytes pc = .ok (.getstatic index, 3)) (hp : pc + 3 = pc') (g : ∀ T', On k Z n0 E T' h cells slots → Go E G (Fm E T' pc' Ls (v :: st))) : Go E G (Fm E T pc Ls st) := by
  obtain ⟨C, hh, L, a1, b1, ha, hb1, hF, X⟩ := W
  subst hp
  obtain ⟨T', X', e', st'⟩ := getS2 X C.1 C.2.2.2.2.2.2.1 C.2.2.2.1 w via hh F (g := mkF E.m pc Ls st) rfl (hb C.2.1 hd)
  exact (g T' ⟨C, e', L, a1, b1, ha, hb1, hF, X'⟩).step st'
theorem go_putF (W : On k Z n0 E T h cells slots) {R0 O n d host K : String} {index kk : Nat} {ty : FieldType} (w : (Cond.fieldLink k.y.cls index R0 n d).before a0 Z = true ∨ (Cond.fieldLinkNest k.y.cls index R0 n d host).before a0 Z = true) (via : Via Z R0 O n d) {a : Addr} {v old : Value} (F : Fld Z h a O n d old) (Ex : Exa Z h a K)
    (L : (Cond.lays K O n d).before a0 Z = true ∨ ((Cond.laysFinal K O n d).before a0 Z = true ∧ k.y.cls = O ∧ k.y.name = "<init>")) (wi : (Cond.instantiable K kk).before a0 Z = true) (hty : parseFieldDescriptor d = some ty) (hn : narrow ty v = v) (hf : fits ty v = true) (hn0 : n0 ≤ a)
    (hd : decode k.bytes pc = .ok (.putfield index, 3)) (hp : pc + 3 = pc') (g : ∀ T' h', On k Z n0 E T' h' cells slots → Wr h h' a (Jvm.RoadKit.slotOf Z O n d) v → Go E G (Fm E T' pc' Ls st)) : Go E G (Fm E T pc Ls (v :: .ref a :: st)) := by
  obtain ⟨C, hh, Lc, a1, b1, ha, hb1, hF, X⟩ := W
  subst hp
  obtain ⟨T', h', X', e', W', st'⟩ := putF X C.1 C.2.2.2.2.2.2.1 C.2.2.2.1 w via hh F Ex (L.imp id fun q => ⟨q.1, q.2.1, C.2.2.2.2.2.2.2.1.trans q.2.2⟩) wi hty hn hf (g := mkF E.m pc Ls (v :: .ref a :: st)) rfl rfl (hb C.2.1 hd)
  exact (g T' h' ⟨C, e', _, a1, b1, ha, hb1, Fr.snoc X' hF hn0, X'⟩ W').step st'
theorem go_new (W : On k Z n0 E T h cells slots) {K : String} {index n : Nat} (w : (Cond.classLink k.y.cls index K).before a0 Z = true) (wi : (Cond.instantiable K n).before a0 Z = true) (wz : (Cond.initialized K).before a0 Z = true) (hd : decode k.bytes pc = .ok (.new index, 3)) (hc : cells + 1 ≤ k.rm.cells) (hl : slots + n ≤ k.rm.slots) (hp : pc + 3 = pc')
    (g : ∀ T' h' a, a = h.size → On k Z n0 E T' h' (cells + 1) (slots + n) → Ext h h' → Exa Z h' a K → (∀ {O nm d : String} {ty : FieldType}, Laid Z a0 K O nm d → parseFieldDescriptor d = some ty → Fld Z h' a O nm d (defaultValue ty)) → (∃ cell : Cell, h'[a]? = some cell ∧ cell.vm = .none ∧ cell.monitor = {}) → Go E G (Fm E T' pc' Ls (.ref a :: st))) : Go E G (Fm E T pc Ls st) := by
  obtain ⟨C, hh, L, a1, b1, ha, hb1, hF, X⟩ := W
  subst hp
  obtain ⟨T', h', X', e', E', A', D', M', st'⟩ := newO X C.1 C.2.2.2.2.2.2.1 C.2.2.2.1 w wi wz hh (g := mkF E.m pc Ls st) rfl (hb C.2.1 hd) (Nat.le_trans (Nat.add_le_add_right ha 1) hc) (Nat.le_trans (Nat.add_le_add_right hb1 n) hl)
  exact (g T' h' _ rfl ⟨C, e', L, _, _, Nat.add_le_add_right ha 1, Nat.add_le_add_right hb1 n, hF, X'⟩ E' A' D' M').step st'
theorem go_initO (W : On k Z n0 E T h cells slots) {index : Nat} (w1 : (Cond.methodLink k.y.cls index Lib.objectInit).before a0 Z = true) (w2 : (Cond.instanceMethod Lib.objectInit).before a0 Z = true) (w3 : (Cond.code Lib.objectInit ⟨#[0xb1]⟩ 1 none).before a0 Z = true) {a : Addr} (hd : decode k.bytes pc = .ok (.invokespecial index, 3)) (hm : Ls.size = k.maxL) (hf : 1 ≤ k.rm.frames) (hl : (st.map fun v => v.category).sum + 12 ≤ k.rm.locals) (hp : pc + 3 = pc')
    (g : ∀ T', On k Z n0 E T' h cells slots → Go E G (Fm E T' pc' Ls st)) : Go E G (Fm E T pc Ls (.ref a :: st)) := by
  obtain ⟨C, hh, L, a1, b1, ha, hb1, hF, X⟩ := W
  subst hp
  obtain ⟨T', X', e', st'⟩ := initO X C.1 C.2.2.2.2.2.2.1 C.2.2.2.1 w1 w2 w3 hh (g := mkF E.m pc Ls (.ref a :: st)) rfl (hm.trans C.2.2.1.symm) rfl (hb C.2.1 hd) hf (W := (st.map fun v => v.category).sum) (by show 2 * 0 + _ ≤ _; omega) hl
  exact (g T' ⟨C, e', L, a1, b1, ha, hb1, hF, X'⟩).step st'
theorem go_castY (W : On k Z n0 E T h cells slots) {K : String} {index : Nat} (w : (Cond.classLink k.y.cls index K).before a0 Z = true) {a : Addr} (F : Ins Z h a K true) (hd : decode k.bytes pc = .ok (.checkcast index, 3)) (hp : pc + 3 = pc') (g : ∀ T', On k Z n0 E T' h cells slots → Go E G (Fm E T' pc' Ls (.ref a :: st))) : Go E G (Fm E T pc Ls (.ref a :: st)) := by
  obtain ⟨C, hh, L, a1, b1, ha, hb1, hF, X⟩ := W
  subst hp
  obtain ⟨T', X', e', st'⟩ := castY X C.1 C.2.2.2.2.2.2.1 C.2.2.2.1 w hh F (g := mkF E.m pc Ls (.ref a :: st)) rfl rfl (hb C.2.1 hd)
  exact (g T' ⟨C, e', L, a1, b1, ha, hb1, hF, X'⟩).step st'
theorem go_instY (W : On k Z n0 E T h cells slots) {K : String} {index : Nat} (w : (Cond.classLink k.y.cls index K).before a0 Z = true) {a : Addr} (F : Ins Z h a K true) (hd : decode k.bytes pc = .ok (.instanceof index, 3)) (hp : pc + 3 = pc') (g : ∀ T', On k Z n0 E T' h cells slots → Go E G (Fm E T' pc' Ls (.int 1 :: st))) : Go E G (Fm E T pc Ls (.ref a :: st)) := by
  obtain ⟨C, hh, L, a1, b1, ha, hb1, hF, X⟩ := W
  subst hp
  obtain ⟨T', X', e', st'⟩ := instY X C.1 C.2.2.2.2.2.2.1 C.2.2.2.1 w hh F (g := mkF E.m pc Ls (.ref a :: st)) rfl rfl (hb C.2.1 hd)
  exact (g T' ⟨C, e', L, a1, b1, ha, hb1, hF, X'⟩).step st'
/-! arrays -/
theorem go_newP (W : On k Z n0 E T h cells slots) {aty : ArrayType} (w : (Cond.arrayClass (newarray.typeOf aty)).before a0 Z = true) {n : Int32} (hd : decode k.bytes pc = .ok (.newarray aty, 2)) (hn : ¬ n < 0) (cap : Nat) (hcap : n.toNatClampNeg ≤ cap) (hb8 : cap * 8 ≤ 536870912) (hc : cells + 1 ≤ k.rm.cells) (hl : slots + cap ≤ k.rm.slots) (hp : pc + 2 = pc')
    (g : ∀ T' h' cA a, a = h.size → On k Z n0 E T' h' (cells + 1) (slots + cap) → Ext h h' → Arr Z h' a (newA cA (newarray.typeOf aty) n) (newarray.typeOf aty) → Go E G (Fm E T' pc' Ls (.ref a :: st))) : Go E G (Fm E T pc Ls (.int n :: st)) := by
  obtain ⟨C, hh, L, a1, b1, ha, hb1, hF, X⟩ := W
  subst hp
  obtain ⟨T', h', cA, X', e', E', A', st'⟩ := newP X C.1 C.2.2.2.2.2.2.1 w hh (g := mkF E.m pc Ls (.int n :: st)) rfl (hb C.2.1 hd) rfl hn hcap hb8 (Nat.le_trans (Nat.add_le_add_right ha 1) hc) (Nat.le_trans (Nat.add_le_add_right hb1 cap) hl)
  exact (g T' h' cA _ rfl ⟨C, e', L, _, _, Nat.add_le_add_right ha 1, Nat.add_le_add_right hb1 cap, hF, X'⟩ E' A').step st'
theorem go_arraylength (W : On k Z n0 E T h cells slots) {a : Addr} {cl : Cell} {ty : FieldType} {z : Int32} (A : Arr Z h a cl ty) (hz : cl.slots.size.toInt32 = z) (hd : decode k.bytes pc = .ok (.arraylength, 1)) (hp : pc + 1 = pc') (g : Go E G (Fm E T pc' Ls (.int z :: st))) : Go E G (Fm E T pc Ls (.ref a :: st)) := by
  obtain ⟨C, hh, L, a1, b1, ha, hb1, hF, X⟩ := W
  subst hp; subst hz
  exact g.step fun t r => X.arraylength C.1 (by rw [hh]; exact A.1) (State.isArrayOf_alike C.2.2.2.2.2.2.1.alike A.2.1) (g := mkF E.m pc Ls (.ref a :: st)) rfl rfl (hb C.2.1 hd) _ r
theorem go_stI (W : On k Z n0 E T h cells slots) {a : Addr} {cl : Cell} (A : Arr Z h a cl .int) {j : Int32} {x : Int32} (hj : ¬ (j < 0 ∨ cl.slots.size ≤ j.toNatClampNeg)) (hn0 : n0 ≤ a) (hd : decode k.bytes pc = .ok (.iastore, 1)) (hp : pc + 1 = pc') (g : ∀ T' h', On k Z n0 E T' h' cells slots → Wr h h' a j.toNatClampNeg (.int x) → Go E G (Fm E T' pc' Ls st)) : Go E G (Fm E T pc Ls (.int x :: .int j :: .ref a :: st)) := by
  obtain ⟨C, hh, L, a1, b1, ha, hb1, hF, X⟩ := W
  subst hp
  obtain ⟨T', h', X', e', W', st'⟩ := stI X C.1 C.2.2.2.2.2.2.1 hh A hj (g := mkF E.m pc Ls (.int x :: .int j :: .ref a :: st)) rfl rfl (hb C.2.1 hd)
  exact (g T' h' ⟨C, e', _, a1, b1, ha, hb1, Fr.snoc X' hF hn0, X'⟩ W').step st'
theorem go_stJ (W : On k Z n0 E T h cells slots) {a : Addr} {cl : Cell} (A : Arr Z h a cl .long) {j : Int32} {x : Int64} (hj : ¬ (j < 0 ∨ cl.slots.size ≤ j.toNatClampNeg)) (hn0 : n0 ≤ a) (hd : decode k.bytes pc = .ok (.lastore, 1)) (hp : pc + 1 = pc') (g : ∀ T' h', On k Z n0 E T' h' cells slots → Wr h h' a j.toNatClampNeg (.long x) → Go E G (Fm E T' pc' Ls st)) : Go E G (Fm E T pc Ls (.long x :: .int j :: .ref a :: st)) := by
  obtain ⟨C, hh, L, a1, b1, ha, hb1, hF, X⟩ := W
  subst hp
  obtain ⟨T', h', X', e', W', st'⟩ := stJ X C.1 C.2.2.2.2.2.2.1 hh A hj (g := mkF E.m pc Ls (.long x :: .int j :: .ref a :: st)) rfl rfl (hb C.2.1 hd)
  exact (g T' h' ⟨C, e', _, a1, b1, ha, hb1, Fr.snoc X' hF hn0, X'⟩ W').step st'
theorem go_stC (W : On k Z n0 E T h cells slots) {a : Addr} {cl : Cell} (A : Arr Z h a cl .char) {j : Int32} {x : Int32} (hj : ¬ (j < 0 ∨ cl.slots.size ≤ j.toNatClampNeg)) (hn0 : n0 ≤ a) (hd : decode k.bytes pc = .ok (.castore, 1)) (hp : pc + 1 = pc') (g : ∀ T' h', On k Z n0 E T' h' cells slots → Wr h h' a j.toNatClampNeg (.int (nar .char x)) → Go E G (Fm E T' pc' Ls st)) : Go E G (Fm E T pc Ls (.int x :: .int j :: .ref a :: st)) := by
  obtain ⟨C, hh, L, a1, b1, ha, hb1, hF, X⟩ := W
  subst hp
  obtain ⟨T', h', X', e', W', st'⟩ := stC X C.1 C.2.2.2.2.2.2.1 hh A hj (g := mkF E.m pc Ls (.int x :: .int j :: .ref a :: st)) rfl rfl (hb C.2.1 hd)
  exact (g T' h' ⟨C, e', _, a1, b1, ha, hb1, Fr.snoc X' hF hn0, X'⟩ W').step st'
theorem go_stB (W : On k Z n0 E T h cells slots) {a : Addr} {cl : Cell} (A : Arr Z h a cl .byte) {j : Int32} {x : Int32} (hj : ¬ (j < 0 ∨ cl.slots.size ≤ j.toNatClampNeg)) (hn0 : n0 ≤ a) (hd : decode k.bytes pc = .ok (.bastore, 1)) (hp : pc + 1 = pc') (g : ∀ T' h', On k Z n0 E T' h' cells slots → Wr h h' a j.toNatClampNeg (.int (nar .byte x)) → Go E G (Fm E T' pc' Ls st)) : Go E G (Fm E T pc Ls (.int x :: .int j :: .ref a :: st)) := by
  obtain ⟨C, hh, L, a1, b1, ha, hb1, hF, X⟩ := W
  subst hp
  obtain ⟨T', h', X', e', W', st'⟩ := stB X C.1 C.2.2.2.2.2.2.1 hh A hj (g := mkF E.m pc Ls (.int x :: .int j :: .ref a :: st)) rfl rfl (hb C.2.1 hd)
  exact (g T' h' ⟨C, e', _, a1, b1, ha, hb1, Fr.snoc X' hF hn0, X'⟩ W').step st'
theorem go_stZ (W : On k Z n0 E T h cells slots) {a : Addr} {cl : Cell} (A : Arr Z h a cl .boolean) {j : Int32} {x : Int32} (hj : ¬ (j < 0 ∨ cl.slots.size ≤ j.toNatClampNeg)) (hn0 : n0 ≤ a) (hd : decode k.bytes pc = .ok (.bastore, 1)) (hp : pc + 1 = pc') (g : ∀ T' h', On k Z n0 E T' h' cells slots → Wr h h' a j.toNatClampNeg (.int (nar .boolean x)) → Go E G (Fm E T' pc' Ls st)) : Go E G (Fm E T pc Ls (.int x :: .int j :: .ref a :: st)) := by
  obtain ⟨C, hh, L, a1, b1, ha, hb1, hF, X⟩ := W
  subst hp
  obtain ⟨T', h', X', e', W', st'⟩ := stZ X C.1 C.2.2.2.2.2.2.1 hh A hj (g := mkF E.m pc Ls (.int x :: .int j :: .ref a :: st)) rfl rfl (hb C.2.1 hd)
  exact (g T' h' ⟨C, e', _, a1, b1, ha, hb1, Fr.snoc X' hF hn0, X'⟩ W').step st'
theorem go_iaload (W : On k Z n0 E T h cells slots) {a : Addr} {cl : Cell} (A : Arr Z h a cl .int) {j : Int32} {v : Value} (hj : ¬ (j < 0 ∨ cl.slots.size ≤ j.toNatClampNeg)) (hat : cl.slots[j.toNatClampNeg]? = some v) (hd : decode k.bytes pc = .ok (.iaload, 1)) (hp : pc + 1 = pc') (g : Go E G (Fm E T pc' Ls (v :: st))) : Go E G (Fm E T pc Ls (.int j :: .ref a :: st)) := by
  obtain ⟨C, hh, L, a1, b1, ha, hb1, hF, X⟩ := W
  subst hp
  exact g.step fun t r => X.iaload C.1 (j := j) (v := v) (by rw [hh]; exact A.1) (State.isArrayOf_alike C.2.2.2.2.2.2.1.alike A.2.1) A.2.2 hj hat (g := mkF E.m pc Ls (.int j :: .ref a :: st)) rfl rfl (hb C.2.1 hd) _ r
theorem go_laload (W : On k Z n0 E T h cells slots) {a : Addr} {cl : Cell} (A : Arr Z h a cl .long) {j : Int32} {v : Value} (hj : ¬ (j < 0 ∨ cl.slots.size ≤ j.toNatClampNeg)) (hat : cl.slots[j.toNatClampNeg]? = some v) (hd : decode k.bytes pc = .ok (.laload, 1)) (hp : pc + 1 = pc') (g : Go E G (Fm E T pc' Ls (v :: st))) : Go E G (Fm E T pc Ls (.int j :: .ref a :: st)) := by
  obtain ⟨C, hh, L, a1, b1, ha, hb1, hF, X⟩ := W
  subst hp
  exact g.step fun t r => X.laload C.1 (j := j) (v := v) (by rw [hh]; exact A.1) (State.isArrayOf_alike C.2.2.2.2.2.2.1.alike A.2.1) A.2.2 hj hat (g := mkF E.m pc Ls (.int j :: .ref a :: st)) rfl rfl (hb C.2.1 hd) _ r
theorem go_caload (W : On k Z n0 E T h cells slots) {a : Addr} {cl : Cell} (A : Arr Z h a cl .char) {j : Int32} {v : Value} (hj : ¬ (j < 0 ∨ cl.slots.size ≤ j.toNatClampNeg)) (hat : cl.slots[j.toNatClampNeg]? = some v) (hd : decode k.bytes pc = .ok (.caload, 1)) (hp : pc + 1 = pc') (g : Go E G (Fm E T pc' Ls (v :: st))) : Go E G (Fm E T pc Ls (.int j :: .ref a :: st)) := by
  obtain ⟨C, hh, L, a1, b1, ha, hb1, hF, X⟩ := W
  subst hp
  exact g.step fun t r => X.caload C.1 (j := j) (v := v) (by rw [hh]; exact A.1) (State.isArrayOf_alike C.2.2.2.2.2.2.1.alike A.2.1) A.2.2 hj hat (g := mkF E.m pc Ls (.int j :: .ref a :: st)) rfl rfl (hb C.2.1 hd) _ r
theorem go_baload (W : On k Z n0 E T h cells slots) {a : Addr} {cl : Cell} (A : Arr Z h a cl .byte) {j : Int32} {v : Value} (hj : ¬ (j < 0 ∨ cl.slots.size ≤ j.toNatClampNeg)) (hat : cl.slots[j.toNatClampNeg]? = some v) (hd : decode k.bytes pc = .ok (.baload, 1)) (hp : pc + 1 = pc') (g : Go E G (Fm E T pc' Ls (v :: st))) : Go E G (Fm E T pc Ls (.int j :: .ref a :: st)) := by
  obtain ⟨C, hh, L, a1, b1, ha, hb1, hF, X⟩ := W
  subst hp
  exact g.step fun t r => X.baloadBytes C.1 (j := j) (v := v) (by rw [hh]; exact A.1) (State.isArrayOf_alike C.2.2.2.2.2.2.1.alike A.2.1) A.2.2 hj hat (g := mkF E.m pc Ls (.int j :: .ref a :: st)) rfl rfl (hb C.2.1 hd) _ r
theorem go_aaload (W : On k Z n0 E T h cells slots) {a : Addr} {cl : Cell} {ty : FieldType} (A : Arr Z h a cl ty) (hty : ty.isReference = true) {j : Int32} {v : Value} (hj : ¬ (j < 0 ∨ cl.slots.size ≤ j.toNatClampNeg)) (hat : cl.slots[j.toNatClampNeg]? = some v) (hd : decode k.bytes pc = .ok (.aaload, 1)) (hp : pc + 1 = pc') (g : Go E G (Fm E T pc' Ls (v :: st))) : Go E G (Fm E T pc Ls (.int j :: .ref a :: st)) := by
  obtain ⟨C, hh, L, a1, b1, ha, hb1, hF, X⟩ := W
  subst hp
  exact g.step fun t r => X.aaload C.1 (j := j) (v := v) (by rw [hh]; exact A.1) (State.isArrayOf_alike C.2.2.2.2.2.2.1.alike A.2.1) hty A.2.2 hj hat (g := mkF E.m pc Ls (.int j :: .ref a :: st)) rfl rfl (hb C.2.1 hd) _ r
/-! the end -/
def EndQ (s : State) (n0 : Nat) (Q : Option Value → Heap → Prop) (C N : Nat) : State → Outcome → Prop := fun t o => ∃ v L, o = .returned v ∧ (Q v t.heap ∧ Fr n0 L) ∧ FrameEnd s o t L C N
/-- a method's contract: from the heap h0, with these arguments, it returns, and Q holds of what it hands back and of the heap that it leaves -/
def Ct (l : Launch) (Z : State) (k : Mt) (as' : Array Value) (h0 : Heap) (n0 : Nat) (Q : Option Value → Heap → Prop) : Prop :=
  ∀ ws, MetFree l k.y (head1 (Cond.code k.y k.bytes k.maxL k.ret :: ws) k.rm) (fun a U => a = as' ∧ Z.Warmed39 U.vm ∧ U.heap = h0) (fun _ _ _ _ _ => True) (fun _ U o U' => ∃ v L, o = .returned v ∧ (Q v U'.heap ∧ Fr n0 L) ∧ FrameEnd U o U' L k.rm.cells k.rm.slots)
theorem Ct.of {l : Launch} {as' : Array Value} {h0 : Heap} {Q : Option Value → Heap → Prop} (hpl : plainFor k.y = true) (ef : ∀ m, entryFrame m as' k.maxL = mkF m 0 Ls []) (body : ∀ (E : Cx) (T : State), On k Z n0 E T h0 0 0 → Go E (EndQ E.s n0 Q k.rm.cells k.rm.slots) (Fm E T 0 Ls [])) : Ct l Z k as' h0 n0 Q := fun ws => by
  refine MetFree.of_bodySF hpl hisR ?_
  intro p e s m args below meth c s₁ Bd hml0 hP hK
  obtain ⟨rfl, hZ, hh⟩ := hP
  have X0 : Stand p l e k.rm s m args below meth c s₁ [] 0 0 := Stand.of_body Bd
  obtain ⟨s₂, o, h1, h2, h3, h4⟩ := body (p, l, e, s, m, args, below, meth, c) s₁ ⟨⟨Bd.exec, Bd.bytes, hml0, findClass_of_methodNamed Bd.named, Bd.returns, Bd.notSynchronized, hZ, (name_of_methodNamed Bd.named Bd.method).1, Bd.named⟩, by rw [← hh, Bd.state]; rfl, [], 0, 0, Nat.le_refl _, Nat.le_refl _, Fr.nil n0, X0⟩
  exact ⟨s₂, o, castTop (ef m) h1, h2, h3, h4⟩
theorem Ct.mono {l : Launch} {as' : Array Value} {h0 : Heap} {Q Q' : Option Value → Heap → Prop} (c : Ct l Z k as' h0 n0 Q) (q : ∀ v h, Q v h → Q' v h) : Ct l Z k as' h0 n0 Q' := fun ws p e ha hc hk s m args below hf happ hP hK => by
  obtain ⟨n, o, h1, h2, h3, v, L, h4, h5, h6⟩ := c ws p e ha hc hk s m args below hf happ hP hK
  exact ⟨n, o, h1, h2, h3, v, L, h4, ⟨q _ _ h5.1, h5.2⟩, h6⟩
theorem go_ret (W : On k Z n0 E T h cells slots) {Q : Option Value → Heap → Prop} {C N : Nat} {w : Value} {t : FieldType} {i : Instr} (hret : k.ret = some t) (hn : narrow t w = w)
    (hi : (i = .ireturn ∧ (t = .int ∨ t = .boolean ∨ t = .byte ∨ t = .char ∨ t = .short) ∧ ∃ z, w = .int z) ∨ (i = .lreturn ∧ t = .long ∧ ∃ z, w = .long z) ∨ (i = .dreturn ∧ t = .double ∧ ∃ z, w = .double z) ∨ (i = .freturn ∧ t = .float ∧ ∃ z, w = .float z) ∨ (i = .areturn ∧ t.isReference = true ∧ w.isRef = true))
    (hd : decode k.bytes pc = .ok (i, 1)) (hC : cells ≤ C) (hN : slots ≤ N) (hq : Q (some w) h) : Go E (EndQ E.s n0 Q C N) (Fm E T pc Ls (w :: st)) := by
  obtain ⟨⟨c1, c2, c3, c4, c5, c6, c7, c8, c9⟩, hh, L, a1, b1, ha, hb1, hF, X⟩ := W
  have hr : E.meth.sig.returnType = some t := c5.trans hret
  obtain ⟨fs, hr', hrun, hended, hW, hsame⟩ := X.leave (v := some w) (fun h => by rw [hr] at h; cases h) c6
  exact ⟨_, _, retOut X c1 hr hn hi (hb c2 hd) hr', hrun, hended, some w, L, rfl, ⟨by show Q (some w) T.heap; rw [hh]; exact hq, hF⟩, ⟨_, rfl⟩, hW, hsame.mono (Nat.le_trans ha hC) (Nat.le_trans hb1 hN)⟩
theorem go_retI (W : On k Z n0 E T h cells slots) {Q : Option Value → Heap → Prop} {C N : Nat} {w : Int32} {t : FieldType} (hret : k.ret = some t) (ht : t = .int ∨ t = .boolean ∨ t = .byte ∨ t = .char ∨ t = .short) (hn : narrow t (.int w) = .int w) (hd : decode k.bytes pc = .ok (.ireturn, 1)) (hC : cells ≤ C) (hN : slots ≤ N) (hq : Q (some (.int w)) h) : Go E (EndQ E.s n0 Q C N) (Fm E T pc Ls (.int w :: st)) :=
  go_ret W hret hn (Or.inl ⟨rfl, ht, _, rfl⟩) hd hC hN hq
theorem go_retL (W : On k Z n0 E T h cells slots) {Q : Option Value → Heap → Prop} {C N : Nat} {w : Int64} (hret : k.ret = some .long) (hd : decode k.bytes pc = .ok (.lreturn, 1)) (hC : cells ≤ C) (hN : slots ≤ N) (hq : Q (some (.long w)) h) : Go E (EndQ E.s n0 Q C N) (Fm E T pc Ls (.long w :: st)) :=
  go_ret W hret rfl (Or.inr (Or.inl ⟨rfl, rfl, _, rfl⟩)) hd hC hN hq
theorem go_retA (W : On k Z n0 E T h cells slots) {Q : Option Value → Heap → Prop} {C N : Nat} {w : Value} {t : FieldType} (hret : k.ret = some t) (ht : t.isReference = true) (hw : w.isRef = true) (hn : narrow t w = w) (hd : decode k.bytes pc = .ok (.areturn, 1)) (hC : cells ≤ C) (hN : slots ≤ N) (hq : Q (some w) h) : Go E (EndQ E.s n0 Q C N) (Fm E T pc Ls (w :: st)) :=
  go_ret W hret hn (Or.inr (Or.inr (Or.inr (Or.inr ⟨rfl, ht, hw⟩)))) hd hC hN hq
theorem go_retV (W : On k Z n0 E T h cells slots) {Q : Option Value → Heap → Prop} {C N : Nat} (hret : k.ret = none) (hd : decode k.bytes pc = .ok (.return_, 1)) (hC : cells ≤ C) (hN : slots ≤ N) (hq : Q none h) : Go E (EndQ E.s n0 Q C N) (Fm E T pc Ls []) := by
  obtain ⟨⟨c1, c2, c3, c4, c5, c6, c7, c8, c9⟩, hh, L, a1, b1, ha, hb1, hF, X⟩ := W
  have hr : E.meth.sig.returnType = none := c5.trans hret
  obtain ⟨fs, hr', hrun, hended, hW, hsame⟩ := X.leave (v := none) (fun _ => rfl) c6
  exact ⟨_, _, X.returnOut c1 hr (hb c2 hd) hr', hrun, hended, none, L, rfl, ⟨by show Q none T.heap; rw [hh]; exact hq, hF⟩, ⟨_, rfl⟩, hW, hsame.mono (Nat.le_trans ha hC) (Nat.le_trans hb1 hN)⟩
/-! calls: by the callee's contract -/
theorem Ct.back {kc : Mt} {as' : Array Value} {Q : Option Value → Heap → Prop} (c : Ct E.l Z kc as' h n0 Q) (hZ : Z.Warmed39 E.s.vm) (wc : (Cond.code kc.y kc.bytes kc.maxL kc.ret).before a0 Z = true) (wz : (Cond.initialized kc.y.cls).before a0 Z = true) {W len : Nat} (hf : kc.rm.frames + 1 ≤ k.rm.frames) (hl : W + (kc.maxL + 11) + kc.rm.locals ≤ k.rm.locals) :
    Back E.l k.rm E.p E.e E.below E.s E.args kc.y len W (fun A a => a = as' ∧ A.U.heap = h ∧ A.cells + kc.rm.cells ≤ k.rm.cells ∧ A.slots + kc.rm.slots ≤ k.rm.slots)
      (fun A _ v B => ∃ L, (Q v B.U.heap ∧ Fr n0 L) ∧ B.locs = A.locs ++ L ∧ B.cells = A.cells + kc.rm.cells ∧ B.slots = A.slots + kc.rm.slots) :=
  backOf (Q := fun v h L => Q v h ∧ Fr n0 L) (c []) hZ wc wz hf hl
theorem go_callS (W : On k Z n0 E T h cells slots) {kc : Mt} {index : Nat} {argsL rest : List Value} {ps : List FieldType} {r : Option FieldType} {Q : Option Value → Heap → Prop} (w1 : (Cond.methodLink k.y.cls index kc.y).before a0 Z = true) (w2 : (Cond.static kc.y).before a0 Z = true) (w3 : (Cond.initialized kc.y.cls).before a0 Z = true) (w4 : (Cond.code kc.y kc.bytes kc.maxL kc.ret).before a0 Z = true)
    (c : Ct E.l Z kc argsL.toArray h n0 Q) (hy : kc.y.cls ≠ "java/lang/invoke/MethodHandle" ∧ kc.y.cls ≠ "java/lang/invoke/VarHandle") (hdesc : parseMethodDescriptor kc.y.desc = some ⟨ps, r⟩) (hlen : argsL.length = ps.length) (hst : st = argsL.reverse ++ rest) (hm : Ls.size = k.maxL)
    (hf : kc.rm.frames + 1 ≤ k.rm.frames) (hl : (rest.map fun v => v.category).sum + (kc.maxL + 11) + kc.rm.locals ≤ k.rm.locals) (hcl : cells + kc.rm.cells ≤ k.rm.cells) (hsl : slots + kc.rm.slots ≤ k.rm.slots) (hd : decode k.bytes pc = .ok (.invokestatic index, 3)) (hp : pc + 3 = pc')
    (g : ∀ v T' h', Q v h' → On k Z n0 E T' h' (cells + kc.rm.cells) (slots + kc.rm.slots) → Go E G (Fm E T' pc' Ls (v.toList ++ rest))) : Go E G (Fm E T pc Ls st) := by
  obtain ⟨C, hh, L, a1, b1, ha, hb1, hF, X⟩ := W
  subst hp
  have hZ := C.2.2.2.2.2.2.1
  obtain ⟨v, _, ⟨T', L', k', n'⟩, -, X', ⟨Lc, hQ, l', y', z'⟩, st'⟩ := Jvm.LawKit.callS X C.1 (y := kc.y) C.2.2.2.1 (mvT hZ w1) (mvT hZ w2) (mvT hZ w3) (mvT hZ w4) hy (c.back (k := k) (W := (rest.map fun v => v.category).sum) hZ w4 w3 hf hl) (g := mkF E.m pc Ls st) rfl (hm.trans C.2.2.1.symm) (argsL := argsL) (rest := rest) (lenOf hdesc hlen) hst (by show 2 * 0 + _ ≤ _; omega) (hb C.2.1 hd) (fun _ _ => ⟨rfl, hh, Nat.le_trans (Nat.add_le_add_right ha _) hcl, Nat.le_trans (Nat.add_le_add_right hb1 _) hsl⟩)
  dsimp only [Pt.U, Pt.locs, Pt.cells, Pt.slots] at X' l' y' z' st' hQ
  subst l' y' z'
  exact (g v T' _ hQ.1 ⟨C, rfl, _, _, _, Nat.add_le_add_right ha _, Nat.add_le_add_right hb1 _, Fr.app hF hQ.2, X'⟩).step st'
theorem go_callN (W : On k Z n0 E T h cells slots) {kc : Mt} {index : Nat} {a : Addr} {argsL rest : List Value} {ps : List FieldType} {r : Option FieldType} {Q : Option Value → Heap → Prop} (w1 : (Cond.methodLink k.y.cls index kc.y).before a0 Z = true) (w2 : (Cond.instanceMethod kc.y).before a0 Z = true) (w3 : (Cond.initialized kc.y.cls).before a0 Z = true) (w4 : (Cond.code kc.y kc.bytes kc.maxL none).before a0 Z = true)
    (c : Ct E.l Z kc (.ref a :: argsL).toArray h n0 Q) (hi : kc.y.name = "<init>") (hrt : kc.ret = none) (hy : kc.y.cls ≠ "java/lang/invoke/MethodHandle" ∧ kc.y.cls ≠ "java/lang/invoke/VarHandle") (hdesc : parseMethodDescriptor kc.y.desc = some ⟨ps, r⟩) (hlen : argsL.length = ps.length) (hst : st = argsL.reverse ++ .ref a :: rest) (hm : Ls.size = k.maxL)
    (hf : kc.rm.frames + 1 ≤ k.rm.frames) (hl : (rest.map fun v => v.category).sum + (kc.maxL + 11) + kc.rm.locals ≤ k.rm.locals) (hcl : cells + kc.rm.cells ≤ k.rm.cells) (hsl : slots + kc.rm.slots ≤ k.rm.slots) (hd : decode k.bytes pc = .ok (.invokespecial index, 3)) (hp : pc + 3 = pc')
    (g : ∀ v T' h', Q v h' → On k Z n0 E T' h' (cells + kc.rm.cells) (slots + kc.rm.slots) → Go E G (Fm E T' pc' Ls (v.toList ++ rest))) : Go E G (Fm E T pc Ls st) := by
  obtain ⟨C, hh, L, a1, b1, ha, hb1, hF, X⟩ := W
  subst hp
  have hZ := C.2.2.2.2.2.2.1
  obtain ⟨v, _, ⟨T', L', k', n'⟩, -, X', ⟨Lc, hQ, l', y', z'⟩, st'⟩ := X.specialBack C.1 (y := kc.y) hi C.2.2.2.1 (mvT hZ w1) (mvT hZ w2) (mvT hZ w4) hy (c.back (k := k) (W := (rest.map fun v => v.category).sum) hZ (hrt ▸ w4) w3 hf hl) (g := mkF E.m pc Ls st) rfl (hm.trans C.2.2.1.symm) (Steps.refl _) (a := a) (argsL := argsL) (rest := rest) (lenOf hdesc hlen) hst (by show 2 * 0 + _ ≤ _; omega) (hb C.2.1 hd) (fun _ _ => ⟨rfl, hh, Nat.le_trans (Nat.add_le_add_right ha _) hcl, Nat.le_trans (Nat.add_le_add_right hb1 _) hsl⟩)
  dsimp only [Pt.U, Pt.locs, Pt.cells, Pt.slots] at X' l' y' z' st' hQ
  subst l' y' z'
  exact (g v T' _ hQ.1 ⟨C, rfl, _, _, _, Nat.add_le_add_right ha _, Nat.add_le_add_right hb1 _, Fr.app hF hQ.2, X'⟩).step fun t q => st'.trans q
theorem go_callV (W : On k Z n0 E T h cells slots) {kc : Mt} {y : MethodName} {K : String} {index : Nat} {a : Addr} {argsL rest : List Value} {ps : List FieldType} {r : Option FieldType} {Q : Option Value → Heap → Prop} (w1 : (Cond.methodLink k.y.cls index y).before a0 Z = true) (w2 : (Cond.declares y).before a0 Z = true) (nf : NotFace E.s y) (w3 : (Cond.selects K y kc.y).before a0 Z = true) (w4 : (Cond.instanceMethod kc.y).before a0 Z = true) (w5 : (Cond.initialized kc.y.cls).before a0 Z = true) (w6 : (Cond.code kc.y kc.bytes kc.maxL kc.ret).before a0 Z = true)
    (Ex : Exa Z h a K) (c : Ct E.l Z kc (.ref a :: argsL).toArray h n0 Q) (hy : y.cls ≠ "java/lang/invoke/MethodHandle" ∧ y.cls ≠ "java/lang/invoke/VarHandle") (hdesc : parseMethodDescriptor y.desc = some ⟨ps, r⟩) (hlen : argsL.length = ps.length) (hst : st = argsL.reverse ++ .ref a :: rest) (hm : Ls.size = k.maxL)
    (hf : kc.rm.frames + 1 ≤ k.rm.frames) (hl : (rest.map fun v => v.category).sum + (kc.maxL + 11) + kc.rm.locals ≤ k.rm.locals) (hcl : cells + kc.rm.cells ≤ k.rm.cells) (hsl : slots + kc.rm.slots ≤ k.rm.slots) (hd : decode k.bytes pc = .ok (.invokevirtual index, 3)) (hp : pc + 3 = pc')
    (g : ∀ v T' h', Q v h' → On k Z n0 E T' h' (cells + kc.rm.cells) (slots + kc.rm.slots) → Go E G (Fm E T' pc' Ls (v.toList ++ rest))) : Go E G (Fm E T pc Ls st) := by
  obtain ⟨C, hh, L, a1, b1, ha, hb1, hF, X⟩ := W
  subst hp
  have hZ := C.2.2.2.2.2.2.1
  obtain ⟨cq, kq, qa, qb, qc⟩ := isOf (T := T) hZ hh Ex
  obtain ⟨v, _, ⟨T', L', k', n'⟩, -, X', ⟨Lc, hQ, l', y', z'⟩, st'⟩ := X.virtualBack C.1 (y := y) (z := kc.y) C.2.2.2.1 (mvT hZ w1) (mvT hZ w2) nf (mvT hZ w3) (mvT hZ w4) hy (c.back (k := k) (W := (rest.map fun v => v.category).sum) hZ w6 w5 hf hl) qa qc (g := mkF E.m pc Ls st) rfl (hm.trans C.2.2.1.symm) (Steps.refl _) (argsL := argsL) (rest := rest) (lenOf hdesc hlen) hst (by show 2 * 0 + _ ≤ _; omega) (hb C.2.1 hd) (fun _ _ => ⟨rfl, hh, Nat.le_trans (Nat.add_le_add_right ha _) hcl, Nat.le_trans (Nat.add_le_add_right hb1 _) hsl⟩)
  dsimp only [Pt.U, Pt.locs, Pt.cells, Pt.slots] at X' l' y' z' st' hQ
  subst l' y' z'
  exact (g v T' _ hQ.1 ⟨C, rfl, _, _, _, Nat.add_le_add_right ha _, Nat.add_le_add_right hb1 _, Fr.app hF hQ.2, X'⟩).step fun t q => st'.trans q
theorem nf_sel (W : On k Z n0 E T h cells slots) {y : MethodName} (w : (Cond.selects y.cls y y).before a0 Z = true) : NotFace E.s y := notFace_of_selects (args := #[]) (mvT W.hZ w)
theorem nf_sup (W : On k Z n0 E T h cells slots) {y : MethodName} {S : String} (w : (Cond.superclass y.cls S).before a0 Z = true) : NotFace E.s y := nf_super (args := #[]) (mvT W.hZ w)

theorem go_instNo (W : On k Z n0 E T h cells slots) {K C : String} {index : Nat} (w : (Cond.classLink k.y.cls index K).before a0 Z = true) {a : Addr} (Ex : Exa Z h a C) (F : ∃ c t, Z.vm.findClass C = some c ∧ Z.vm.findClass K = some t ∧ Z.vm.assignable c t = false) (hd : decode k.bytes pc = .ok (.instanceof index, 3)) (hp : pc + 3 = pc') (g : ∀ T', On k Z n0 E T' h cells slots → Go E G (Fm E T' pc' Ls (.int 0 :: st))) : Go E G (Fm E T pc Ls (.ref a :: st)) := by
  obtain ⟨C, hh, L, a1, b1, ha, hb1, hF, X⟩ := W
  subst hp
  obtain ⟨T', X', e', st'⟩ := instNo X C.1 C.2.2.2.2.2.2.1 C.2.2.2.1 w hh Ex F (g := mkF E.m pc Ls (.ref a :: st)) rfl rfl (hb C.2.1 hd)
  exact (g T' ⟨C, e', L, a1, b1, ha, hb1, hF, X'⟩).step st'
theorem go_instNull (W : On k Z n0 E T h cells slots) {index : Nat} (hd : decode k.bytes pc = .ok (.instanceof index, 3)) (hp : pc + 3 = pc') (g : Go E G (Fm E T pc' Ls (.int 0 :: st))) : Go E G (Fm E T pc Ls (.null :: st)) := by
  obtain ⟨C, hh, L, a1, b1, ha, hb1, hF, X⟩ := W
  subst hp
  exact g.step (X.instanceofNull C.1 (g := mkF E.m pc Ls (.null :: st)) rfl rfl (hb C.2.1 hd))
theorem go_castNull (W : On k Z n0 E T h cells slots) {index : Nat} (hd : decode k.bytes pc = .ok (.checkcast index, 3)) (hp : pc + 3 = pc') (g : Go E G (Fm E T pc' Ls (.null :: st))) : Go E G (Fm E T pc Ls (.null :: st)) := by
  obtain ⟨C, hh, L, a1, b1, ha, hb1, hF, X⟩ := W
  subst hp
  exact g.step (X.checkcastNull C.1 (g := mkF E.m pc Ls (.null :: st)) rfl rfl (hb C.2.1 hd))
theorem go_putFN (W : On k Z n0 E T h cells slots) {R0 O n d K : String} {index kk : Nat} {ty : FieldType} (w : (Cond.fieldLink k.y.cls index R0 n d).before a0 Z = true) (via : Via Z R0 O n d) {a : Addr} {v v' old : Value} (F : Fld Z h a O n d old) (Ex : Exa Z h a K)
    (L : (Cond.lays K O n d).before a0 Z = true ∨ ((Cond.laysFinal K O n d).before a0 Z = true ∧ k.y.cls = O ∧ k.y.name = "<init>")) (wi : (Cond.instantiable K kk).before a0 Z = true) (hty : parseFieldDescriptor d = some ty) (hn : narrow ty v = v') (hf : fits ty v' = true) (hn0 : n0 ≤ a)
    (hd : decode k.bytes pc = .ok (.putfield index, 3)) (hp : pc + 3 = pc') (g : ∀ T' h', On k Z n0 E T' h' cells slots → Wr h h' a (Jvm.RoadKit.slotOf Z O n d) v' → Go E G (Fm E T' pc' Ls st)) : Go E G (Fm E T pc Ls (v :: .ref a :: st)) := by
  obtain ⟨C, hh, Lc, a1, b1, ha, hb1, hF, X⟩ := W
  subst hp
  obtain ⟨T', h', X', e', W', st'⟩ := putFN X C.1 C.2.2.2.2.2.2.1 C.2.2.2.1 w via hh F Ex (L.imp id fun q => ⟨q.1, q.2.1, C.2.2.2.2.2.2.2.1.trans q.2.2⟩) wi hty hn hf (g := mkF E.m pc Ls (v :: .ref a :: st)) rfl rfl (hb C.2.1 hd)
  exact (g T' h' ⟨C, e', _, a1, b1, ha, hb1, Fr.snoc X' hF hn0, X'⟩ W').step st'
theorem go_newR (W : On k Z n0 E T h cells slots) {K : String} {index : Nat} (w1 : (Cond.classLink k.y.cls index K).before a0 Z = true) (w2 : (Cond.arrayOver (.object K)).before a0 Z = true) {n : Int32} (hd : decode k.bytes pc = .ok (.anewarray index, 3)) (hn : ¬ n < 0) (cap : Nat) (hcap : n.toNatClampNeg ≤ cap) (hb8 : cap * 8 ≤ 536870912) (hc : cells + 1 ≤ k.rm.cells) (hl : slots + cap ≤ k.rm.slots) (hp : pc + 3 = pc')
    (g : ∀ T' h' cA a, a = h.size → On k Z n0 E T' h' (cells + 1) (slots + cap) → Ext h h' → Arr Z h' a (newA cA (.object K) n) (.object K) → Ovr Z cA K → Go E G (Fm E T' pc' Ls (.ref a :: st))) : Go E G (Fm E T pc Ls (.int n :: st)) := by
  obtain ⟨C, hh, L, a1, b1, ha, hb1, hF, X⟩ := W
  subst hp
  obtain ⟨T', h', cA, X', e', E', A', O', st'⟩ := newR X C.1 C.2.2.2.2.2.2.1 C.2.2.2.1 w1 w2 hh (g := mkF E.m pc Ls (.int n :: st)) rfl (hb C.2.1 hd) rfl hn hcap hb8 (Nat.le_trans (Nat.add_le_add_right ha 1) hc) (Nat.le_trans (Nat.add_le_add_right hb1 cap) hl)
  exact (g T' h' cA _ rfl ⟨C, e', L, _, _, Nat.add_le_add_right ha 1, Nat.add_le_add_right hb1 cap, hF, X'⟩ E' A' O').step st'
theorem go_stR (W : On k Z n0 E T h cells slots) {a : Addr} {cl : Cell} {ty : FieldType} (A : Arr Z h a cl ty) {j : Int32} {v : Value} (hj : ¬ (j < 0 ∨ cl.slots.size ≤ j.toNatClampNeg)) (hty : ty.isReference = true) (F : Sto Z h a v) (hn0 : n0 ≤ a) (hd : decode k.bytes pc = .ok (.aastore, 1)) (hp : pc + 1 = pc') (g : ∀ T' h', On k Z n0 E T' h' cells slots → Wr h h' a j.toNatClampNeg v → Go E G (Fm E T' pc' Ls st)) : Go E G (Fm E T pc Ls (v :: .int j :: .ref a :: st)) := by
  obtain ⟨C, hh, L, a1, b1, ha, hb1, hF, X⟩ := W
  subst hp
  obtain ⟨T', h', X', e', W', st'⟩ := stR X C.1 C.2.2.2.2.2.2.1 hh A hj hty F (g := mkF E.m pc Ls (v :: .int j :: .ref a :: st)) rfl rfl (hb C.2.1 hd)
  exact (g T' h' ⟨C, e', _, a1, b1, ha, hb1, Fr.snoc X' hF hn0, X'⟩ W').step st'
theorem go_newPE (W : On k Z n0 E T h cells slots) {aty : ArrayType} (w : (Cond.arrayClass (newarray.typeOf aty)).before a0 Z = true) {n : Int32} (hd : decode k.bytes pc = .ok (.newarray aty, 2)) (hn : ¬ n < 0) (cap : Nat) (hcap : n.toNatClampNeg ≤ cap) (hb8 : cap * 8 ≤ 536870912) (hc : cells + 1 ≤ k.rm.cells) (hl : slots + cap ≤ k.rm.slots) {ad : String} (had : "[" ++ (newarray.typeOf aty).toString = ad) (hp : pc + 2 = pc')
    (g : ∀ T' h' cA a, a = h.size → On k Z n0 E T' h' (cells + 1) (slots + cap) → Ext h h' → Arr Z h' a (newA cA (newarray.typeOf aty) n) (newarray.typeOf aty) → Exa Z h' a ad → Go E G (Fm E T' pc' Ls (.ref a :: st))) : Go E G (Fm E T pc Ls (.int n :: st)) := by
  obtain ⟨C, hh, L, a1, b1, ha, hb1, hF, X⟩ := W
  subst hp
  obtain ⟨T', h', cA, X', e', E', A', Q', st'⟩ := newPE X C.1 C.2.2.2.2.2.2.1 w hh (g := mkF E.m pc Ls (.int n :: st)) rfl (hb C.2.1 hd) rfl hn hcap hb8 (Nat.le_trans (Nat.add_le_add_right ha 1) hc) (Nat.le_trans (Nat.add_le_add_right hb1 cap) hl) had
  exact (g T' h' cA _ rfl ⟨C, e', L, _, _, Nat.add_le_add_right ha 1, Nat.add_le_add_right hb1 cap, hF, X'⟩ E' A' Q').step st'
theorem go_cloneA (W : On k Z n0 E T h cells slots) {ad : String} {index : Nat} (w1 : (Cond.methodLink k.y.cls index ⟨ad, "clone", "()Ljava/lang/Object;"⟩).before a0 Z = true) (w2 : (Cond.sameMethod ad "java/lang/Object" "clone" "()Ljava/lang/Object;").before a0 Z = true) (w3 : (Cond.native ⟨"java/lang/Object", "clone", "()Ljava/lang/Object;"⟩).before a0 Z = true)
    (w4 : (Cond.instanceMethod ⟨"java/lang/Object", "clone", "()Ljava/lang/Object;"⟩).before a0 Z = true) (w5 : (Cond.selects ad ⟨ad, "clone", "()Ljava/lang/Object;"⟩ ⟨"java/lang/Object", "clone", "()Ljava/lang/Object;"⟩).before a0 Z = true) (w6 : (Cond.castable ad "java/lang/Cloneable").before a0 Z = true)
    {a : Addr} {cl : Cell} {ty : FieldType} (A : Arr Z h a cl ty) (Ex : Exa Z h a ad) (F : FitC Z cl) (hd : decode k.bytes pc = .ok (.invokevirtual index, 3)) (hm : Ls.size = k.maxL) (hf : 1 ≤ k.rm.frames) (hl : (st.map fun v => v.category).sum + 14 ≤ k.rm.locals) (cap : Nat) (hcap : cl.slots.size ≤ cap) (hc : cells + 1 ≤ k.rm.cells) (hsl : slots + cap ≤ k.rm.slots) (hp : pc + 3 = pc')
    (g : ∀ T' h' b, b = h.size → On k Z n0 E T' h' (cells + 1) (slots + cap) → Ext h h' → Arr Z h' b (cloneOf cl) ty → Exa Z h' b ad → Go E G (Fm E T' pc' Ls (.ref b :: st))) : Go E G (Fm E T pc Ls (.ref a :: st)) := by
  obtain ⟨C, hh, L, a1, b1, ha, hb1, hF, X⟩ := W
  subst hp
  obtain ⟨T', h', X', e', E', A', Q', st'⟩ := cloneA X C.1 C.2.2.2.2.2.2.1 C.2.2.2.1 w1 w2 w3 w4 w5 w6 hh A Ex F (g := mkF E.m pc Ls (.ref a :: st)) rfl (hm.trans C.2.2.1.symm) rfl (hb C.2.1 hd) hf (W := (st.map fun v => v.category).sum) (by show 2 * 0 + _ ≤ _; omega) hl hcap (Nat.le_trans (Nat.add_le_add_right ha 1) hc) (Nat.le_trans (Nat.add_le_add_right hb1 cap) hsl)
  exact (g T' h' _ rfl ⟨C, e', L, _, _, Nat.add_le_add_right ha 1, Nat.add_le_add_right hb1 cap, hF, X'⟩ E' A' Q').step st'
theorem go_lamConst (W : On k Z n0 E T h cells slots) {index : Nat} {sh : Lambda.Shape} (w : (Cond.lambdaSite k.y pc index sh).before a0 Z = true) (hcap : sh.captured = []) (hd : decode k.bytes pc = .ok (.invokedynamic index, 5)) (hm : Ls.size = k.maxL) (hl : (st.map fun v => v.category).sum + 3072 ≤ k.rm.locals) (hp : pc + 5 = pc') (g : ∀ a : Addr, Go E G (Fm E T pc' Ls (.ref a :: st))) : Go E G (Fm E T pc Ls st) := by
  obtain ⟨C, hh, L, a1, b1, ha, hb1, hF, X⟩ := W
  subst hp
  have hZ := C.2.2.2.2.2.2.1
  obtain ⟨cK, one, hat⟩ := Cond.lambdaSite_spec w
  obtain ⟨mD, kD, cfD, i0, p0, lk, hmD, hkD, -, -, -, hfind, -, -, hl'⟩ := State.lambdaAt?_spec hat
  have hn : Z.methodNamed? k.y = some E.m := by
    have q : (Z.setVm E.s.vm).methodNamed? k.y = some E.m := C.2.2.2.2.2.2.2.2
    rw [State.methodNamed?_setVm hZ.alike] at q; exact q
  cases hn.symm.trans hmD
  obtain ⟨k', q1, q2⟩ := hZ.alike.2.2 _ _ hkD
  rcases hl' with ⟨a, cell, rfl, -⟩ | ⟨-, -, hne⟩
  · have hw : E.e.platform.lambdaLinkWords = 3072 := by rw [X.admits.platform]
    exact (g a).step fun t r => X.lambdaConstant C.1 (g := mkF E.m pc Ls st) rfl (hm.trans C.2.2.1.symm) (hb C.2.1 hd) q1 (by rw [q2]; exact hfind) (by rw [hw]; show 2 * 0 + (st.map fun v => v.category).sum + 3072 ≤ _; omega) r
  · exact absurd hcap hne
theorem go_lsw (W : On k Z n0 E T h cells slots) {dflt : Int} {prs : Array (Int × Int)} {len : Nat} {i : Int32} (hd : decode k.bytes pc = .ok (.lookupswitch dflt prs, len)) (hsrt : ∀ a b a_1 b_1 : Int, ((a, b), a_1, b_1) ∈ prs.toList.zip prs.toList.tail → a < a_1) (ho : 0 ≤ (pc : Int) + lookupswitch.offset prs.toList dflt i.toInt) (hp : ((pc : Int) + lookupswitch.offset prs.toList dflt i.toInt).toNat = pc') (g : Go E G (Fm E T pc' Ls st)) : Go E G (Fm E T pc Ls (.int i :: st)) := by
  subst hp
  refine g.step fun t r => ?_
  have q := W.here; have hx := W.exec; have hd' := hb W.bytes hd
  show Steps E.p.tables E.e E.below (T.setTop { method := E.m, pc := pc, locals := Ls, stack := .int i :: st, locked := none }) t
  jvm_step q [q.top, hx, hd', ho, lookupswitch.wp_chain]
  exact ⟨hsrt, r⟩
theorem Sta.kept {h' : Heap} {C n d : String} {v : Value} (S : Sta Z h C n d v) (K : Keep h h' []) : Sta Z h' C n d v := by
  obtain ⟨cf, i, k, f, st, cell, h1, h2, h3, h4, h5, r⟩ := S; exact ⟨cf, i, k, f, st, cell, h1, h2, h3, h4, K.2.1 _ _ h5 nin0, r⟩
theorem Arr.kept {h' : Heap} {a : Addr} {c : Cell} {ty : FieldType} (A : Arr Z h a c ty) (K : Keep h h' []) : Arr Z h' a c ty := ⟨K.2.1 _ _ A.1 nin0, A.2⟩
theorem Keep.ext0 {h' : Heap} {ws : List Addr} (K : Keep h h' ws) (q : ∀ x ∈ ws, h.size ≤ x) : Ext h h' := ⟨K.1, fun a c e => K.2.1 a c e fun y => absurd (Array.getElem?_eq_some_iff.mp e).1 (Nat.not_lt.mpr (q a y))⟩
theorem Keep.nil {h' : Heap} {ws : List Addr} (K : Keep h h' ws) (q : ∀ x ∈ ws, h.size ≤ x) : Keep h h' [] := ⟨K.1, fun a c e _ => (Keep.ext0 K q).2 a c e, K.2.2⟩
/-! an array by a function -/
def Af (Z : State) (h : Heap) (a : Addr) (ty : FieldType) (n : Nat) (f : Nat → Value) : Prop := ∃ c : Cell, Arr Z h a c ty ∧ c.slots.size = n ∧ ∀ i, i < n → c.slots[i]? = some (f i)
theorem Af.lt {a : Addr} {ty : FieldType} {n : Nat} {f : Nat → Value} (F : Af Z h a ty n f) : a < h.size := by obtain ⟨c, A, -⟩ := F; exact A.lt
theorem Af.ext {h' : Heap} {a : Addr} {ty : FieldType} {n : Nat} {f : Nat → Value} (F : Af Z h a ty n f) (X : Ext h h') : Af Z h' a ty n f := by obtain ⟨c, A, r⟩ := F; exact ⟨c, A.ext X, r⟩
theorem Af.other {h' : Heap} {a b : Addr} {sl : Nat} {v : Value} {ty : FieldType} {n : Nat} {f : Nat → Value} (F : Af Z h b ty n f) (W : Wr h h' a sl v) (q : b ≠ a) : Af Z h' b ty n f := by obtain ⟨c, A, r⟩ := F; exact ⟨c, A.other W q, r⟩
theorem Af.keep {h' : Heap} {a : Addr} {ws : List Addr} {ty : FieldType} {n : Nat} {f : Nat → Value} (F : Af Z h a ty n f) (K : Keep h h' ws) (q : a ∉ ws) : Af Z h' a ty n f := by obtain ⟨c, A, r⟩ := F; exact ⟨c, ⟨K.2.1 a c A.1 q, A.2⟩, r⟩
theorem Af.congr {a : Addr} {ty : FieldType} {n : Nat} {f f' : Nat → Value} (F : Af Z h a ty n f) (q : ∀ i, i < n → f i = f' i) : Af Z h a ty n f' := by obtain ⟨c, A, r1, r2⟩ := F; exact ⟨c, A, r1, fun i hi => by rw [r2 i hi, q i hi]⟩
theorem Af.new {a : Addr} {ty : FieldType} {cA : ClassId} {z : Int32} {n : Nat} (A : Arr Z h a (newA cA ty z) ty) (q : z.toNatClampNeg = n) : Af Z h a ty n (fun _ => defaultValue ty) := ⟨_, A, by rw [sz_new]; exact q, fun i hi => by subst q; simp [newA, hi]⟩
theorem Af.set {h' : Heap} {a : Addr} {v : Value} {ty : FieldType} {n : Nat} {f : Nat → Value} {i : Nat} (F : Af Z h a ty n f) (W : Wr h h' a i v) (hi : i < n) : Af Z h' a ty n (fun j => if j = i then v else f j) := by
  obtain ⟨c, A, r1, r2⟩ := F
  refine ⟨_, A.same W, by rw [sz_set]; exact r1, fun j hj => ?_⟩
  by_cases e : j = i
  · subst e; simp [Cell.setSlot, r1, hi]
  · show _ = some (if j = i then v else f j)
    rw [if_neg e, ← r2 j hj]; exact Array.getElem?_setIfInBounds_ne (Ne.symm e)
theorem Af.at {a : Addr} {ty : FieldType} {n : Nat} {f : Nat → Value} {j : Int32} {i : Nat} (F : Af Z h a ty n f) (hj : j.toInt = (i : Int)) (hi : i < n) : j.toNatClampNeg = i ∧ ∃ c : Cell, Arr Z h a c ty ∧ ¬ (j < 0 ∨ c.slots.size ≤ j.toNatClampNeg) ∧ c.slots[j.toNatClampNeg]? = some (f i) := by
  obtain ⟨c, A, r1, r2⟩ := F
  have e : j.toNatClampNeg = i := by simp only [Int32.toNatClampNeg]; omega
  refine ⟨e, c, A, ?_, by rw [e]; exact r2 i hi⟩
  rw [e, r1, Int32.lt_iff_toInt_lt, hj]
  simp only [Int32.reduceToInt]; omega
theorem Af.len {a : Addr} {ty : FieldType} {n : Nat} {f : Nat → Value} (F : Af Z h a ty n f) : ∃ c : Cell, Arr Z h a c ty ∧ c.slots.size = n := by obtain ⟨c, A, r1, -⟩ := F; exact ⟨c, A, r1⟩
theorem Af.fitC {a : Addr} {ty : FieldType} {n : Nat} {f : Nat → Value} (F : Af Z h a ty n f) (q : ∀ i, i < n → fits ty (f i) = true) : ∃ c : Cell, Arr Z h a c ty ∧ c.slots.size = n ∧ FitC Z c ∧ ∀ i, i < n → c.slots[i]? = some (f i) := by
  obtain ⟨c, A, r1, r2⟩ := F
  refine ⟨c, A, r1, fitC_of A fun i hi v hv => ?_, r2⟩
  rw [r1] at hi
  rw [r2 i hi] at hv
  cases hv; exact q i hi
theorem go_cloneF (W : On k Z n0 E T h cells slots) {ad : String} {index : Nat} (w1 : (Cond.methodLink k.y.cls index ⟨ad, "clone", "()Ljava/lang/Object;"⟩).before a0 Z = true) (w2 : (Cond.sameMethod ad "java/lang/Object" "clone" "()Ljava/lang/Object;").before a0 Z = true) (w3 : (Cond.native ⟨"java/lang/Object", "clone", "()Ljava/lang/Object;"⟩).before a0 Z = true)
    (w4 : (Cond.instanceMethod ⟨"java/lang/Object", "clone", "()Ljava/lang/Object;"⟩).before a0 Z = true) (w5 : (Cond.selects ad ⟨ad, "clone", "()Ljava/lang/Object;"⟩ ⟨"java/lang/Object", "clone", "()Ljava/lang/Object;"⟩).before a0 Z = true) (w6 : (Cond.castable ad "java/lang/Cloneable").before a0 Z = true)
    {a : Addr} {ty : FieldType} {n : Nat} {f : Nat → Value} (F : Af Z h a ty n f) (hfit : ∀ i, i < n → fits ty (f i) = true) (Ex : Exa Z h a ad) (hd : decode k.bytes pc = .ok (.invokevirtual index, 3)) (hm : Ls.size = k.maxL) (hf : 1 ≤ k.rm.frames) (hl : (st.map fun v => v.category).sum + 14 ≤ k.rm.locals) (hc : cells + 1 ≤ k.rm.cells) (hsl : slots + n ≤ k.rm.slots) (hp : pc + 3 = pc')
    (g : ∀ T' h' b, b = h.size → On k Z n0 E T' h' (cells + 1) (slots + n) → Ext h h' → Af Z h' b ty n f → Exa Z h' b ad → Go E G (Fm E T' pc' Ls (.ref b :: st))) : Go E G (Fm E T pc Ls (.ref a :: st)) := by
  obtain ⟨c, A, r1, FC, r2⟩ := F.fitC hfit
  exact go_cloneA W w1 w2 w3 w4 w5 w6 A Ex FC hd hm hf hl n (Nat.le_of_eq r1) hc hsl hp fun T' h' b e W' E' A' Q' => g T' h' b e W' E' ⟨_, A', r1, r2⟩ Q'
theorem go_lenF (W : On k Z n0 E T h cells slots) {a : Addr} {ty : FieldType} {n : Nat} {f : Nat → Value} {z : Int32} (F : Af Z h a ty n f) (hz : n.toInt32 = z) (hd : decode k.bytes pc = .ok (.arraylength, 1)) (hp : pc + 1 = pc') (g : Go E G (Fm E T pc' Ls (.int z :: st))) : Go E G (Fm E T pc Ls (.ref a :: st)) := by
  obtain ⟨c, A, r⟩ := F.len
  exact go_arraylength W A (by rw [r]; exact hz) hd hp g
theorem go_stIF (W : On k Z n0 E T h cells slots) {a : Addr} {n : Nat} {f : Nat → Value} {j : Int32} {i : Nat} {x : Int32} (F : Af Z h a .int n f) (hj : j.toInt = (i : Int)) (hi : i < n) (hn0 : n0 ≤ a) (hd : decode k.bytes pc = .ok (.iastore, 1)) (hp : pc + 1 = pc') (g : ∀ T' h', On k Z n0 E T' h' cells slots → Wr h h' a i (.int x) → Af Z h' a .int n (fun j => if j = i then (.int x) else f j) → Go E G (Fm E T' pc' Ls st)) : Go E G (Fm E T pc Ls (.int x :: .int j :: .ref a :: st)) := by
  obtain ⟨e, c, A, q, -⟩ := F.at hj hi
  exact go_stI W A q hn0 hd hp fun T' h' W' R => g T' h' W' (e ▸ R) (F.set (e ▸ R) hi)
theorem go_stJF (W : On k Z n0 E T h cells slots) {a : Addr} {n : Nat} {f : Nat → Value} {j : Int32} {i : Nat} {x : Int64} (F : Af Z h a .long n f) (hj : j.toInt = (i : Int)) (hi : i < n) (hn0 : n0 ≤ a) (hd : decode k.bytes pc = .ok (.lastore, 1)) (hp : pc + 1 = pc') (g : ∀ T' h', On k Z n0 E T' h' cells slots → Wr h h' a i (.long x) → Af Z h' a .long n (fun j => if j = i then (.long x) else f j) → Go E G (Fm E T' pc' Ls st)) : Go E G (Fm E T pc Ls (.long x :: .int j :: .ref a :: st)) := by
  obtain ⟨e, c, A, q, -⟩ := F.at hj hi
  exact go_stJ W A q hn0 hd hp fun T' h' W' R => g T' h' W' (e ▸ R) (F.set (e ▸ R) hi)
theorem go_stCF (W : On k Z n0 E T h cells slots) {a : Addr} {n : Nat} {f : Nat → Value} {j : Int32} {i : Nat} {x : Int32} (F : Af Z h a .char n f) (hj : j.toInt = (i : Int)) (hi : i < n) (hn0 : n0 ≤ a) (hd : decode k.bytes pc = .ok (.castore, 1)) (hp : pc + 1 = pc') (g : ∀ T' h', On k Z n0 E T' h' cells slots → Wr h h' a i (.int (nar .char x)) → Af Z h' a .char n (fun j => if j = i then (.int (nar .char x)) else f j) → Go E G (Fm E T' pc' Ls st)) : Go E G (Fm E T pc Ls (.int x :: .int j :: .ref a :: st)) := by
  obtain ⟨e, c, A, q, -⟩ := F.at hj hi
  exact go_stC W A q hn0 hd hp fun T' h' W' R => g T' h' W' (e ▸ R) (F.set (e ▸ R) hi)
theorem go_stBF (W : On k Z n0 E T h cells slots) {a : Addr} {n : Nat} {f : Nat → Value} {j : Int32} {i : Nat} {x : Int32} (F : Af Z h a .byte n f) (hj : j.toInt = (i : Int)) (hi : i < n) (hn0 : n0 ≤ a) (hd : decode k.bytes pc = .ok (.bastore, 1)) (hp : pc + 1 = pc') (g : ∀ T' h', On k Z n0 E T' h' cells slots → Wr h h' a i (.int (nar .byte x)) → Af Z h' a .byte n (fun j => if j = i then (.int (nar .byte x)) else f j) → Go E G (Fm E T' pc' Ls st)) : Go E G (Fm E T pc Ls (.int x :: .int j :: .ref a :: st)) := by
  obtain ⟨e, c, A, q, -⟩ := F.at hj hi
  exact go_stB W A q hn0 hd hp fun T' h' W' R => g T' h' W' (e ▸ R) (F.set (e ▸ R) hi)
theorem go_stZF (W : On k Z n0 E T h cells slots) {a : Addr} {n : Nat} {f : Nat → Value} {j : Int32} {i : Nat} {x : Int32} (F : Af Z h a .boolean n f) (hj : j.toInt = (i : Int)) (hi : i < n) (hn0 : n0 ≤ a) (hd : decode k.bytes pc = .ok (.bastore, 1)) (hp : pc + 1 = pc') (g : ∀ T' h', On k Z n0 E T' h' cells slots → Wr h h' a i (.int (nar .boolean x)) → Af Z h' a .boolean n (fun j => if j = i then (.int (nar .boolean x)) else f j) → Go E G (Fm E T' pc' Ls st)) : Go E G (Fm E T pc Ls (.int x :: .int j :: .ref a :: st)) := by
  obtain ⟨e, c, A, q, -⟩ := F.at hj hi
  exact go_stZ W A q hn0 hd hp fun T' h' W' R => g T' h' W' (e ▸ R) (F.set (e ▸ R) hi)
theorem go_ialoadF (W : On k Z n0 E T h cells slots) {a : Addr} {n : Nat} {f : Nat → Value} {j : Int32} {i : Nat} {v : Value} (F : Af Z h a .int n f) (hj : j.toInt = (i : Int)) (hi : i < n) (hv : f i = v) (hd : decode k.bytes pc = .ok (.iaload, 1)) (hp : pc + 1 = pc') (g : Go E G (Fm E T pc' Ls (v :: st))) : Go E G (Fm E T pc Ls (.int j :: .ref a :: st)) := by
  obtain ⟨e, c, A, q, r⟩ := F.at hj hi
  exact go_iaload W A q (hv ▸ r) hd hp g
theorem go_laloadF (W : On k Z n0 E T h cells slots) {a : Addr} {n : Nat} {f : Nat → Value} {j : Int32} {i : Nat} {v : Value} (F : Af Z h a .long n f) (hj : j.toInt = (i : Int)) (hi : i < n) (hv : f i = v) (hd : decode k.bytes pc = .ok (.laload, 1)) (hp : pc + 1 = pc') (g : Go E G (Fm E T pc' Ls (v :: st))) : Go E G (Fm E T pc Ls (.int j :: .ref a :: st)) := by
  obtain ⟨e, c, A, q, r⟩ := F.at hj hi
  exact go_laload W A q (hv ▸ r) hd hp g
theorem go_caloadF (W : On k Z n0 E T h cells slots) {a : Addr} {n : Nat} {f : Nat → Value} {j : Int32} {i : Nat} {v : Value} (F : Af Z h a .char n f) (hj : j.toInt = (i : Int)) (hi : i < n) (hv : f i = v) (hd : decode k.bytes pc = .ok (.caload, 1)) (hp : pc + 1 = pc') (g : Go E G (Fm E T pc' Ls (v :: st))) : Go E G (Fm E T pc Ls (.int j :: .ref a :: st)) := by
  obtain ⟨e, c, A, q, r⟩ := F.at hj hi
  exact go_caload W A q (hv ▸ r) hd hp g
theorem go_baloadF (W : On k Z n0 E T h cells slots) {a : Addr} {n : Nat} {f : Nat → Value} {j : Int32} {i : Nat} {v : Value} (F : Af Z h a .byte n f) (hj : j.toInt = (i : Int)) (hi : i < n) (hv : f i = v) (hd : decode k.bytes pc = .ok (.baload, 1)) (hp : pc + 1 = pc') (g : Go E G (Fm E T pc' Ls (v :: st))) : Go E G (Fm E T pc Ls (.int j :: .ref a :: st)) := by
  obtain ⟨e, c, A, q, r⟩ := F.at hj hi
  exact go_baload W A q (hv ▸ r) hd hp g
theorem go_callU (W : On k Z n0 E T h cells slots) {kc : Mt} {y : MethodName} {K owner : String} {index : Nat} {a : Addr} {argsL rest : List Value} {ps : List FieldType} {r : Option FieldType} {Q : Option Value → Heap → Prop} (w1 : (Cond.methodLink k.y.cls index y).before a0 Z = true) (w2 : (Cond.sameMethod y.cls owner y.name y.desc).before a0 Z = true) (w2' : (Cond.declares ⟨owner, y.name, y.desc⟩).before a0 Z = true) (w3 : (Cond.selects K y kc.y).before a0 Z = true) (w4 : (Cond.instanceMethod kc.y).before a0 Z = true) (w5 : (Cond.initialized kc.y.cls).before a0 Z = true) (w6 : (Cond.code kc.y kc.bytes kc.maxL kc.ret).before a0 Z = true)
    (Ex : Exa Z h a K) (c : Ct E.l Z kc (.ref a :: argsL).toArray h n0 Q) (hy : owner ≠ "java/lang/invoke/MethodHandle" ∧ owner ≠ "java/lang/invoke/VarHandle") (hdesc : parseMethodDescriptor y.desc = some ⟨ps, r⟩) (hlen : argsL.length = ps.length) (hst : st = argsL.reverse ++ .ref a :: rest) (hm : Ls.size = k.maxL)
    (hf : kc.rm.frames + 1 ≤ k.rm.frames) (hl : (rest.map fun v => v.category).sum + (kc.maxL + 11) + kc.rm.locals ≤ k.rm.locals) (hcl : cells + kc.rm.cells ≤ k.rm.cells) (hsl : slots + kc.rm.slots ≤ k.rm.slots) (hd : decode k.bytes pc = .ok (.invokevirtual index, 3)) (hp : pc + 3 = pc')
    (g : ∀ v T' h', Q v h' → On k Z n0 E T' h' (cells + kc.rm.cells) (slots + kc.rm.slots) → Go E G (Fm E T' pc' Ls (v.toList ++ rest))) : Go E G (Fm E T pc Ls st) := by
  obtain ⟨C, hh, L, a1, b1, ha, hb1, hF, X⟩ := W
  subst hp
  have hZ := C.2.2.2.2.2.2.1
  obtain ⟨cq, kq, qa, qb, qc⟩ := isOf (T := T) hZ hh Ex
  obtain ⟨v, _, ⟨T', L', k', n'⟩, -, X', ⟨Lc, hQ, l', y', z'⟩, st'⟩ := X.virtualBackUp C.1 (x := y) (y := kc.y) C.2.2.2.1 (mvT hZ w1) (mvT hZ w2) (mvT hZ w2') hy (mvT hZ w3) (mvT hZ w4) (c.back (k := k) (W := (rest.map fun v => v.category).sum) hZ w6 w5 hf hl) qa qc (g := mkF E.m pc Ls st) rfl (hm.trans C.2.2.1.symm) (Steps.refl _) (argsL := argsL) (rest := rest) (lenOf hdesc hlen) hst (by show 2 * 0 + _ ≤ _; omega) (hb C.2.1 hd) (fun _ _ => ⟨rfl, hh, Nat.le_trans (Nat.add_le_add_right ha _) hcl, Nat.le_trans (Nat.add_le_add_right hb1 _) hsl⟩)
  dsimp only [Pt.U, Pt.locs, Pt.cells, Pt.slots] at X' l' y' z' st' hQ
  subst l' y' z'
  exact (g v T' _ hQ.1 ⟨C, rfl, _, _, _, Nat.add_le_add_right ha _, Nat.add_le_add_right hb1 _, Fr.app hF hQ.2, X'⟩).step fun t q => st'.trans q
theorem go_callP (W : On k Z n0 E T h cells slots) {kc : Mt} {index : Nat} {a : Addr} {K : String} {argsL rest : List Value} {ps : List FieldType} {r : Option FieldType} {Q : Option Value → Heap → Prop} (w1 : (Cond.methodLink k.y.cls index kc.y).before a0 Z = true) (w2 : (Cond.instanceMethod kc.y).before a0 Z = true) (w3 : (Cond.selects kc.y.cls kc.y kc.y).before a0 Z = true) (w4 : (Cond.privateMethod kc.y).before a0 Z = true) (w5 : (Cond.initialized kc.y.cls).before a0 Z = true) (w6 : (Cond.code kc.y kc.bytes kc.maxL kc.ret).before a0 Z = true)
    (Ex : Exa Z h a K) (c : Ct E.l Z kc (.ref a :: argsL).toArray h n0 Q) (hy : kc.y.cls ≠ "java/lang/invoke/MethodHandle" ∧ kc.y.cls ≠ "java/lang/invoke/VarHandle") (hdesc : parseMethodDescriptor kc.y.desc = some ⟨ps, r⟩) (hlen : argsL.length = ps.length) (hst : st = argsL.reverse ++ .ref a :: rest) (hm : Ls.size = k.maxL)
    (hf : kc.rm.frames + 1 ≤ k.rm.frames) (hl : (rest.map fun v => v.category).sum + (kc.maxL + 11) + kc.rm.locals ≤ k.rm.locals) (hcl : cells + kc.rm.cells ≤ k.rm.cells) (hsl : slots + kc.rm.slots ≤ k.rm.slots) (hd : decode k.bytes pc = .ok (.invokevirtual index, 3)) (hp : pc + 3 = pc')
    (g : ∀ v T' h', Q v h' → On k Z n0 E T' h' (cells + kc.rm.cells) (slots + kc.rm.slots) → Go E G (Fm E T' pc' Ls (v.toList ++ rest))) : Go E G (Fm E T pc Ls st) := by
  obtain ⟨C, hh, L, a1, b1, ha, hb1, hF, X⟩ := W
  subst hp
  have hZ := C.2.2.2.2.2.2.1
  obtain ⟨cq, q1, q2⟩ := Ex.cell
  obtain ⟨v, _, ⟨T', L', k', n'⟩, -, X', ⟨Lc, hQ, l', y', z'⟩, st'⟩ := X.privateBack C.1 (y := kc.y) C.2.2.2.1 (mvT hZ w1) (mvT hZ w2) (mvT hZ w3) (Cond.privateMethod_at (mvP hZ w4 (args := #[]))) (mvT hZ w6) hy (c.back (k := k) (W := (rest.map fun v => v.category).sum) hZ w6 w5 hf hl) (g := mkF E.m pc Ls st) rfl (hm.trans C.2.2.1.symm) (Steps.refl _) (a := a) (by rw [hh]; exact q1) q2 (argsL := argsL) (rest := rest) (lenOf hdesc hlen) hst (by show 2 * 0 + _ ≤ _; omega) (hb C.2.1 hd) (fun _ _ => ⟨rfl, hh, Nat.le_trans (Nat.add_le_add_right ha _) hcl, Nat.le_trans (Nat.add_le_add_right hb1 _) hsl⟩)
  dsimp only [Pt.U, Pt.locs, Pt.cells, Pt.slots] at X' l' y' z' st' hQ
  subst l' y' z'
  exact (g v T' _ hQ.1 ⟨C, rfl, _, _, _, Nat.add_le_add_right ha _, Nat.add_le_add_right hb1 _, Fr.app hF hQ.2, X'⟩).step fun t q => st'.trans q
theorem go_callF (W : On k Z n0 E T h cells slots) {kc : Mt} {y : MethodName} {K : String} {index count : Nat} {a : Addr} {argsL rest : List Value} {ps : List FieldType} {r : Option FieldType} {Q : Option Value → Heap → Prop} (w1 : (Cond.methodLink k.y.cls index y).before a0 Z = true) (w2 : (Cond.declares y).before a0 Z = true) (w2' : (Cond.interfaceMethod y.cls y.cls y.name y.desc).before a0 Z = true) (w3 : (Cond.selects K y kc.y).before a0 Z = true) (w4 : (Cond.instanceMethod kc.y).before a0 Z = true) (w4' : (Cond.publicMethod kc.y).before a0 Z = true) (w4'' : (Cond.unhidden K y.name y.desc).before a0 Z = true) (wk : (Cond.castable K y.cls).before a0 Z = true) (w5 : (Cond.initialized kc.y.cls).before a0 Z = true) (w6 : (Cond.code kc.y kc.bytes kc.maxL kc.ret).before a0 Z = true)
    (Ex : Exa Z h a K) (c : Ct E.l Z kc (.ref a :: argsL).toArray h n0 Q) (hy : y.cls ≠ "java/lang/invoke/MethodHandle" ∧ y.cls ≠ "java/lang/invoke/VarHandle") (hdesc : parseMethodDescriptor y.desc = some ⟨ps, r⟩) (hlen : argsL.length = ps.length) (hst : st = argsL.reverse ++ .ref a :: rest) (hm : Ls.size = k.maxL)
    (hf : kc.rm.frames + 1 ≤ k.rm.frames) (hl : (rest.map fun v => v.category).sum + (kc.maxL + 11) + kc.rm.locals ≤ k.rm.locals) (hcl : cells + kc.rm.cells ≤ k.rm.cells) (hsl : slots + kc.rm.slots ≤ k.rm.slots) (hd : decode k.bytes pc = .ok (.invokeinterface index count, 5)) (hp : pc + 5 = pc')
    (g : ∀ v T' h', Q v h' → On k Z n0 E T' h' (cells + kc.rm.cells) (slots + kc.rm.slots) → Go E G (Fm E T' pc' Ls (v.toList ++ rest))) : Go E G (Fm E T pc Ls st) := by
  obtain ⟨C, hh, L, a1, b1, ha, hb1, hF, X⟩ := W
  subst hp
  have hZ := C.2.2.2.2.2.2.1
  obtain ⟨cq, kq, qa, qb, qc⟩ := isOf (T := T) hZ hh Ex
  obtain ⟨v, _, ⟨T', L', k', n'⟩, -, X', ⟨Lc, hQ, l', y', z'⟩, st'⟩ := X.interfaceBack C.1 (xi := y) (y := kc.y) C.2.2.2.1 (mvT hZ w1) (mvT hZ w2) (mvT hZ w2' (by simp [Cond.onTables, Cond.keepsFace, Cond.keeps, Cond.steady, Cond.faceAtom, hy.1, hy.2])) (mvT hZ w3) (mvT hZ w4) (mvT hZ w4') (mvT hZ w4'') (mvT hZ wk) hy (c.back (k := k) (W := (rest.map fun v => v.category).sum) hZ w6 w5 hf hl) qa qb qc (g := mkF E.m pc Ls st) rfl (hm.trans C.2.2.1.symm) (Steps.refl _) (argsL := argsL) (rest := rest) (lenOf hdesc hlen) hst (by show 2 * 0 + _ ≤ _; omega) (hb C.2.1 hd) (fun _ _ => ⟨rfl, hh, Nat.le_trans (Nat.add_le_add_right ha _) hcl, Nat.le_trans (Nat.add_le_add_right hb1 _) hsl⟩)
  dsimp only [Pt.U, Pt.locs, Pt.cells, Pt.slots] at X' l' y' z' st' hQ
  subst l' y' z'
  exact (g v T' _ hQ.1 ⟨C, rfl, _, _, _, Nat.add_le_add_right ha _, Nat.add_le_add_right hb1 _, Fr.app hF hQ.2, X'⟩).step fun t q => st'.trans q
end
end Jvm.GoKit
namespace Jvm.Pilot.@@N@@
open Jvm Jvm.ClassFile Sem Op Lib Jvm.Free Jvm.Stand Jvm.LawKit Jvm.RoadKit Bundle Jvm.GoKit Jvm.Pilot.@@N@@.Jvm.D
abbrev Hw (a0 : Array Value) (Z : State) : Prop := ∀ d ∈ tables_1, d.before a0 Z = true
theorem w0 {a0 : Array Value} {Z : State} (hw : Hw a0 Z) : (Jvm.Cond.arrayClass Jvm.ClassFile.FieldType.char).before a0 Z = true := hw _ (List.mem_of_getElem? (i := 0) rfl)
theorem w1 {a0 : Array Value} {Z : State} (hw : Hw a0 Z) : (Jvm.Cond.methodLink "com/example/hornstone/hornstone/read/PositionStepBackPinLaw" (10 : Nat) ({ cls := "com/example/hornstone/hornstone/read/PositionStepBackPinLaw", name := "pick", desc := "(JIJI)C" } : Jvm.MethodName)).before a0 Z = true := hw _ (List.mem_of_getElem? (i := 1) rfl)
theorem w2 {a0 : Array Value} {Z : State} (hw : Hw a0 Z) : (Jvm.Cond.static ({ cls := "com/example/hornstone/hornstone/read/PositionStepBackPinLaw", name := "pick", desc := "(JIJI)C" } : Jvm.MethodName)).before a0 Z = true := hw _ (List.mem_of_getElem? (i := 2) rfl)
theorem w3 {a0 : Array Value} {Z : State} (hw : Hw a0 Z) : (Jvm.Cond.initialized "com/example/hornstone/hornstone/read/PositionStepBackPinLaw").before a0 Z = true := hw _ (List.mem_of_getElem? (i := 3) rfl)
theorem w4 {a0 : Array Value} {Z : State} (hw : Hw a0 Z) : (Jvm.Cond.code ({ cls := "com/example/hornstone/hornstone/read/PositionStepBackPinLaw", name := "pick", desc := "(JIJI)C" } : Jvm.MethodName) method_2_code (8 : Nat) (Option.some Jvm.ClassFile.FieldType.char)).before a0 Z = true := hw _ (List.mem_of_getElem? (i := 4) rfl)
theorem w5 {a0 : Array Value} {Z : State} (hw : Hw a0 Z) : (Jvm.Cond.constant "com/example/hornstone/hornstone/read/PositionStepBackPinLaw" (7 : Nat) (65535 : Int32)).before a0 Z = true := hw _ (List.mem_of_getElem? (i := 5) rfl)
theorem w6 {a0 : Array Value} {Z : State} (hw : Hw a0 Z) : (Jvm.Cond.constant "com/example/hornstone/hornstone/read/PositionStepBackPinLaw" (16 : Nat) (2147483647 : Int32)).before a0 Z = true := hw _ (List.mem_of_getElem? (i := 6) rfl)
theorem w7 {a0 : Array Value} {Z : State} (hw : Hw a0 Z) : (Jvm.Cond.methodLink "com/example/hornstone/hornstone/read/PositionStepBackPinLaw" (17 : Nat) ({ cls := "java/lang/Math", name := "max", desc := "(II)I" } : Jvm.MethodName)).before a0 Z = true := hw _ (List.mem_of_getElem? (i := 7) rfl)
theorem w8 {a0 : Array Value} {Z : State} (hw : Hw a0 Z) : (Jvm.Cond.static ({ cls := "java/lang/Math", name := "max", desc := "(II)I" } : Jvm.MethodName)).before a0 Z = true := hw _ (List.mem_of_getElem? (i := 8) rfl)
theorem w9 {a0 : Array Value} {Z : State} (hw : Hw a0 Z) : (Jvm.Cond.initialized "java/lang/Math").before a0 Z = true := hw _ (List.mem_of_getElem? (i := 9) rfl)
theorem w10 {a0 : Array Value} {Z : State} (hw : Hw a0 Z) : (Jvm.Cond.code ({ cls := "java/lang/Math", name := "max", desc := "(II)I" } : Jvm.MethodName) jdk_29_method_65_code (2 : Nat) (Option.some Jvm.ClassFile.FieldType.int)).before a0 Z = true := hw _ (List.mem_of_getElem? (i := 10) rfl)
theorem w11 {a0 : Array Value} {Z : State} (hw : Hw a0 Z) : (Jvm.Cond.classLink "com/example/hornstone/hornstone/read/PositionStepBackPinLaw" (23 : Nat) "com/example/hornstone/hornstone/read/Position").before a0 Z = true := hw _ (List.mem_of_getElem? (i := 11) rfl)
theorem w12 {a0 : Array Value} {Z : State} (hw : Hw a0 Z) : (Jvm.Cond.instantiable "com/example/hornstone/hornstone/read/Position" (8 : Nat)).before a0 Z = true := hw _ (List.mem_of_getElem? (i := 12) rfl)
theorem w13 {a0 : Array Value} {Z : State} (hw : Hw a0 Z) : (Jvm.Cond.initialized "com/example/hornstone/hornstone/read/Position").before a0 Z = true := hw _ (List.mem_of_getElem? (i := 13) rfl)
theorem w14 {a0 : Array Value} {Z : State} (hw : Hw a0 Z) : (Jvm.Cond.methodLink "com/example/hornstone/hornstone/read/PositionStepBackPinLaw" (25 : Nat) ({ cls := "com/example/hornstone/hornstone/read/Position", name := "<init>", desc := "()V" } : Jvm.MethodName)).before a0 Z = true := hw _ (List.mem_of_getElem? (i := 14) rfl)
theorem w15 {a0 : Array Value} {Z : State} (hw : Hw a0 Z) : (Jvm.Cond.instanceMethod ({ cls := "com/example/hornstone/hornstone/read/Position", name := "<init>", desc := "()V" } : Jvm.MethodName)).before a0 Z = true := hw _ (List.mem_of_getElem? (i := 15) rfl)
theorem w16 {a0 : Array Value} {Z : State} (hw : Hw a0 Z) : (Jvm.Cond.code ({ cls := "com/example/hornstone/hornstone/read/Position", name := "<init>", desc := "()V" } : Jvm.MethodName) prog_103_method_1_code (1 : Nat) (Option.none : Option Jvm.ClassFile.FieldType)).before a0 Z = true := hw _ (List.mem_of_getElem? (i := 16) rfl)
theorem w17 {a0 : Array Value} {Z : State} (hw : Hw a0 Z) : (Jvm.Cond.methodLink "com/example/hornstone/hornstone/read/Position" (1 : Nat) ({ cls := "java/lang/Object", name := "<init>", desc := "()V" } : Jvm.MethodName)).before a0 Z = true := hw _ (List.mem_of_getElem? (i := 17) rfl)
theorem w18 {a0 : Array Value} {Z : State} (hw : Hw a0 Z) : (Jvm.Cond.instanceMethod ({ cls := "java/lang/Object", name := "<init>", desc := "()V" } : Jvm.MethodName)).before a0 Z = true := hw _ (List.mem_of_getElem? (i := 18) rfl)
theorem w19 {a0 : Array Value} {Z : State} (hw : Hw a0 Z) : (Jvm.Cond.code ({ cls := "java/lang/Object", name := "<init>", desc := "()V" } : Jvm.MethodName) object_method_1_code (1 : Nat) (Option.none : Option Jvm.ClassFile.FieldType)).before a0 Z = true := hw _ (List.mem_of_getElem? (i := 19) rfl)
theorem w20 {a0 : Array Value} {Z : State} (hw : Hw a0 Z) : (Jvm.Cond.arrayClass Jvm.ClassFile.FieldType.int).before a0 Z = true := hw _ (List.mem_of_getElem? (i := 20) rfl)
theorem w21 {a0 : Array Value} {Z : State} (hw : Hw a0 Z) : (Jvm.Cond.fieldLink "com/example/hornstone/hornstone/read/Position" (9 : Nat) "com/example/hornstone/hornstone/read/Position" "lines" "[I").before a0 Z = true := hw _ (List.mem_of_getElem? (i := 21) rfl)
theorem w22 {a0 : Array Value} {Z : State} (hw : Hw a0 Z) : (Jvm.Cond.laysFinal "com/example/hornstone/hornstone/read/Position" "com/example/hornstone/hornstone/read/Position" "lines" "[I").before a0 Z = true := hw _ (List.mem_of_getElem? (i := 22) rfl)
theorem w23 {a0 : Array Value} {Z : State} (hw : Hw a0 Z) : (Jvm.Cond.fieldLink "com/example/hornstone/hornstone/read/Position" (13 : Nat) "com/example/hornstone/hornstone/read/Position" "columns" "[I").before a0 Z = true := hw _ (List.mem_of_getElem? (i := 23) rfl)
theorem w24 {a0 : Array Value} {Z : State} (hw : Hw a0 Z) : (Jvm.Cond.laysFinal "com/example/hornstone/hornstone/read/Position" "com/example/hornstone/hornstone/read/Position" "columns" "[I").before a0 Z = true := hw _ (List.mem_of_getElem? (i := 24) rfl)
theorem w25 {a0 : Array Value} {Z : State} (hw : Hw a0 Z) : (Jvm.Cond.arrayClass Jvm.ClassFile.FieldType.byte).before a0 Z = true := hw _ (List.mem_of_getElem? (i := 25) rfl)
theorem w26 {a0 : Array Value} {Z : State} (hw : Hw a0 Z) : (Jvm.Cond.fieldLink "com/example/hornstone/hornstone/read/Position" (16 : Nat) "com/example/hornstone/hornstone/read/Position" "breaks" "[B").before a0 Z = true := hw _ (List.mem_of_getElem? (i := 26) rfl)
theorem w27 {a0 : Array Value} {Z : State} (hw : Hw a0 Z) : (Jvm.Cond.laysFinal "com/example/hornstone/hornstone/read/Position" "com/example/hornstone/hornstone/read/Position" "breaks" "[B").before a0 Z = true := hw _ (List.mem_of_getElem? (i := 27) rfl)
theorem w28 {a0 : Array Value} {Z : State} (hw : Hw a0 Z) : (Jvm.Cond.fieldLink "com/example/hornstone/hornstone/read/Position" (20 : Nat) "com/example/hornstone/hornstone/read/Position" "line" "I").before a0 Z = true := hw _ (List.mem_of_getElem? (i := 28) rfl)
theorem w29 {a0 : Array Value} {Z : State} (hw : Hw a0 Z) : (Jvm.Cond.lays "com/example/hornstone/hornstone/read/Position" "com/example/hornstone/hornstone/read/Position" "line" "I").before a0 Z = true := hw _ (List.mem_of_getElem? (i := 29) rfl)
theorem w30 {a0 : Array Value} {Z : State} (hw : Hw a0 Z) : (Jvm.Cond.fieldLink "com/example/hornstone/hornstone/read/Position" (24 : Nat) "com/example/hornstone/hornstone/read/Position" "lastBreak" "B").before a0 Z = true := hw _ (List.mem_of_getElem? (i := 30) rfl)
theorem w31 {a0 : Array Value} {Z : State} (hw : Hw a0 Z) : (Jvm.Cond.lays "com/example/hornstone/hornstone/read/Position" "com/example/hornstone/hornstone/read/Position" "lastBreak" "B").before a0 Z = true := hw _ (List.mem_of_getElem? (i := 31) rfl)
theorem w32 {a0 : Array Value} {Z : State} (hw : Hw a0 Z) : (Jvm.Cond.methodLink "com/example/hornstone/hornstone/read/PositionStepBackPinLaw" (26 : Nat) ({ cls := "com/example/hornstone/hornstone/read/Position", name := "advance", desc := "([CII)V" } : Jvm.MethodName)).before a0 Z = true := hw _ (List.mem_of_getElem? (i := 32) rfl)
theorem w33 {a0 : Array Value} {Z : State} (hw : Hw a0 Z) : (Jvm.Cond.declares ({ cls := "com/example/hornstone/hornstone/read/Position", name := "advance", desc := "([CII)V" } : Jvm.MethodName)).before a0 Z = true := hw _ (List.mem_of_getElem? (i := 33) rfl)
theorem w34 {a0 : Array Value} {Z : State} (hw : Hw a0 Z) : (Jvm.Cond.instanceMethod ({ cls := "com/example/hornstone/hornstone/read/Position", name := "advance", desc := "([CII)V" } : Jvm.MethodName)).before a0 Z = true := hw _ (List.mem_of_getElem? (i := 34) rfl)
theorem w35 {a0 : Array Value} {Z : State} (hw : Hw a0 Z) : (Jvm.Cond.selects "com/example/hornstone/hornstone/read/Position" ({ cls := "com/example/hornstone/hornstone/read/Position", name := "advance", desc := "([CII)V" } : Jvm.MethodName) ({ cls := "com/example/hornstone/hornstone/read/Position", name := "advance", desc := "([CII)V" } : Jvm.MethodName)).before a0 Z = true := hw _ (List.mem_of_getElem? (i := 35) rfl)
theorem w36 {a0 : Array Value} {Z : State} (hw : Hw a0 Z) : (Jvm.Cond.code ({ cls := "com/example/hornstone/hornstone/read/Position", name := "advance", desc := "([CII)V" } : Jvm.MethodName) prog_103_method_3_code (7 : Nat) (Option.none : Option Jvm.ClassFile.FieldType)).before a0 Z = true := hw _ (List.mem_of_getElem? (i := 36) rfl)
theorem w37 {a0 : Array Value} {Z : State} (hw : Hw a0 Z) : (Jvm.Cond.methodLink "com/example/hornstone/hornstone/read/Position" (50 : Nat) ({ cls := "java/lang/Math", name := "max", desc := "(II)I" } : Jvm.MethodName)).before a0 Z = true := hw _ (List.mem_of_getElem? (i := 37) rfl)
theorem w38 {a0 : Array Value} {Z : State} (hw : Hw a0 Z) : (Jvm.Cond.methodLink "com/example/hornstone/hornstone/read/Position" (53 : Nat) ({ cls := "com/example/hornstone/hornstone/read/Position", name := "advance", desc := "(I)V" } : Jvm.MethodName)).before a0 Z = true := hw _ (List.mem_of_getElem? (i := 38) rfl)
theorem w39 {a0 : Array Value} {Z : State} (hw : Hw a0 Z) : (Jvm.Cond.declares ({ cls := "com/example/hornstone/hornstone/read/Position", name := "advance", desc := "(I)V" } : Jvm.MethodName)).before a0 Z = true := hw _ (List.mem_of_getElem? (i := 39) rfl)
theorem w40 {a0 : Array Value} {Z : State} (hw : Hw a0 Z) : (Jvm.Cond.instanceMethod ({ cls := "com/example/hornstone/hornstone/read/Position", name := "advance", desc := "(I)V" } : Jvm.MethodName)).before a0 Z = true := hw _ (List.mem_of_getElem? (i := 40) rfl)
theorem w41 {a0 : Array Value} {Z : State} (hw : Hw a0 Z) : (Jvm.Cond.selects "com/example/hornstone/hornstone/read/Position" ({ cls := "com/example/hornstone/hornstone/read/Position", name := "advance", desc := "(I)V" } : Jvm.MethodName) ({ cls := "com/example/hornstone/hornstone/read/Position", name := "advance", desc := "(I)V" } : Jvm.MethodName)).before a0 Z = true := hw _ (List.mem_of_getElem? (i := 41) rfl)
theorem w42 {a0 : Array Value} {Z : State} (hw : Hw a0 Z) : (Jvm.Cond.code ({ cls := "com/example/hornstone/hornstone/read/Position", name := "advance", desc := "(I)V" } : Jvm.MethodName) prog_103_method_2_code (4 : Nat) (Option.none : Option Jvm.ClassFile.FieldType)).before a0 Z = true := hw _ (List.mem_of_getElem? (i := 42) rfl)
theorem w43 {a0 : Array Value} {Z : State} (hw : Hw a0 Z) : (Jvm.Cond.fieldLink "com/example/hornstone/hornstone/read/Position" (28 : Nat) "com/example/hornstone/hornstone/read/Position" "newest" "I").before a0 Z = true := hw _ (List.mem_of_getElem? (i := 43) rfl)
theorem w44 {a0 : Array Value} {Z : State} (hw : Hw a0 Z) : (Jvm.Cond.lays "com/example/hornstone/hornstone/read/Position" "com/example/hornstone/hornstone/read/Position" "newest" "I").before a0 Z = true := hw _ (List.mem_of_getElem? (i := 44) rfl)
theorem w45 {a0 : Array Value} {Z : State} (hw : Hw a0 Z) : (Jvm.Cond.fieldLink "com/example/hornstone/hornstone/read/Position" (31 : Nat) "com/example/hornstone/hornstone/read/Position" "column" "I").before a0 Z = true := hw _ (List.mem_of_getElem? (i := 45) rfl)
theorem w46 {a0 : Array Value} {Z : State} (hw : Hw a0 Z) : (Jvm.Cond.lays "com/example/hornstone/hornstone/read/Position" "com/example/hornstone/hornstone/read/Position" "column" "I").before a0 Z = true := hw _ (List.mem_of_getElem? (i := 46) rfl)
theorem w47 {a0 : Array Value} {Z : State} (hw : Hw a0 Z) : (Jvm.Cond.fieldLink "com/example/hornstone/hornstone/read/Position" (34 : Nat) "com/example/hornstone/hornstone/read/Position" "kept" "I").before a0 Z = true := hw _ (List.mem_of_getElem? (i := 47) rfl)
theorem w48 {a0 : Array Value} {Z : State} (hw : Hw a0 Z) : (Jvm.Cond.lays "com/example/hornstone/hornstone/read/Position" "com/example/hornstone/hornstone/read/Position" "kept" "I").before a0 Z = true := hw _ (List.mem_of_getElem? (i := 48) rfl)
theorem w49 {a0 : Array Value} {Z : State} (hw : Hw a0 Z) : (Jvm.Cond.methodLink "com/example/hornstone/hornstone/read/Position" (37 : Nat) ({ cls := "java/lang/Math", name := "min", desc := "(II)I" } : Jvm.MethodName)).before a0 Z = true := hw _ (List.mem_of_getElem? (i := 49) rfl)
theorem w50 {a0 : Array Value} {Z : State} (hw : Hw a0 Z) : (Jvm.Cond.static ({ cls := "java/lang/Math", name := "min", desc := "(II)I" } : Jvm.MethodName)).before a0 Z = true := hw _ (List.mem_of_getElem? (i := 50) rfl)
theorem w51 {a0 : Array Value} {Z : State} (hw : Hw a0 Z) : (Jvm.Cond.code ({ cls := "java/lang/Math", name := "min", desc := "(II)I" } : Jvm.MethodName) jdk_29_method_69_code (2 : Nat) (Option.some Jvm.ClassFile.FieldType.int)).before a0 Z = true := hw _ (List.mem_of_getElem? (i := 51) rfl)
theorem w52 {a0 : Array Value} {Z : State} (hw : Hw a0 Z) : (Jvm.Cond.constant "com/example/hornstone/hornstone/read/Position" (45 : Nat) (65535 : Int32)).before a0 Z = true := hw _ (List.mem_of_getElem? (i := 52) rfl)
theorem w53 {a0 : Array Value} {Z : State} (hw : Hw a0 Z) : (Jvm.Cond.methodLink "com/example/hornstone/hornstone/read/Position" (46 : Nat) ({ cls := "java/lang/Character", name := "isLowSurrogate", desc := "(C)Z" } : Jvm.MethodName)).before a0 Z = true := hw _ (List.mem_of_getElem? (i := 53) rfl)
theorem w54 {a0 : Array Value} {Z : State} (hw : Hw a0 Z) : (Jvm.Cond.static ({ cls := "java/lang/Character", name := "isLowSurrogate", desc := "(C)Z" } : Jvm.MethodName)).before a0 Z = true := hw _ (List.mem_of_getElem? (i := 54) rfl)
theorem w55 {a0 : Array Value} {Z : State} (hw : Hw a0 Z) : (Jvm.Cond.initialized "java/lang/Character").before a0 Z = true := hw _ (List.mem_of_getElem? (i := 55) rfl)
theorem w56 {a0 : Array Value} {Z : State} (hw : Hw a0 Z) : (Jvm.Cond.code ({ cls := "java/lang/Character", name := "isLowSurrogate", desc := "(C)Z" } : Jvm.MethodName) jdk_89_method_15_code (1 : Nat) (Option.some Jvm.ClassFile.FieldType.boolean)).before a0 Z = true := hw _ (List.mem_of_getElem? (i := 56) rfl)
theorem w57 {a0 : Array Value} {Z : State} (hw : Hw a0 Z) : (Jvm.Cond.constant "java/lang/Character" (76 : Nat) (56320 : Int32)).before a0 Z = true := hw _ (List.mem_of_getElem? (i := 57) rfl)
theorem w58 {a0 : Array Value} {Z : State} (hw : Hw a0 Z) : (Jvm.Cond.methodLink "com/example/hornstone/hornstone/read/PositionStepBackPinLaw" (30 : Nat) ({ cls := "com/example/hornstone/hornstone/read/Position", name := "stepBack", desc := "()V" } : Jvm.MethodName)).before a0 Z = true := hw _ (List.mem_of_getElem? (i := 58) rfl)
theorem w59 {a0 : Array Value} {Z : State} (hw : Hw a0 Z) : (Jvm.Cond.declares ({ cls := "com/example/hornstone/hornstone/read/Position", name := "stepBack", desc := "()V" } : Jvm.MethodName)).before a0 Z = true := hw _ (List.mem_of_getElem? (i := 59) rfl)
theorem w60 {a0 : Array Value} {Z : State} (hw : Hw a0 Z) : (Jvm.Cond.instanceMethod ({ cls := "com/example/hornstone/hornstone/read/Position", name := "stepBack", desc := "()V" } : Jvm.MethodName)).before a0 Z = true := hw _ (List.mem_of_getElem? (i := 60) rfl)
theorem w61 {a0 : Array Value} {Z : State} (hw : Hw a0 Z) : (Jvm.Cond.selects "com/example/hornstone/hornstone/read/Position" ({ cls := "com/example/hornstone/hornstone/read/Position", name := "stepBack", desc := "()V" } : Jvm.MethodName) ({ cls := "com/example/hornstone/hornstone/read/Position", name := "stepBack", desc := "()V" } : Jvm.MethodName)).before a0 Z = true := hw _ (List.mem_of_getElem? (i := 61) rfl)
theorem w62 {a0 : Array Value} {Z : State} (hw : Hw a0 Z) : (Jvm.Cond.code ({ cls := "com/example/hornstone/hornstone/read/Position", name := "stepBack", desc := "()V" } : Jvm.MethodName) prog_103_method_5_code (1 : Nat) (Option.none : Option Jvm.ClassFile.FieldType)).before a0 Z = true := hw _ (List.mem_of_getElem? (i := 62) rfl)
theorem w63 {a0 : Array Value} {Z : State} (hw : Hw a0 Z) : (Jvm.Cond.methodLink "com/example/hornstone/hornstone/read/PositionStepBackPinLaw" (33 : Nat) ({ cls := "com/example/hornstone/hornstone/read/Position", name := "line", desc := "()I" } : Jvm.MethodName)).before a0 Z = true := hw _ (List.mem_of_getElem? (i := 63) rfl)
theorem w64 {a0 : Array Value} {Z : State} (hw : Hw a0 Z) : (Jvm.Cond.declares ({ cls := "com/example/hornstone/hornstone/read/Position", name := "line", desc := "()I" } : Jvm.MethodName)).before a0 Z = true := hw _ (List.mem_of_getElem? (i := 64) rfl)
theorem w65 {a0 : Array Value} {Z : State} (hw : Hw a0 Z) : (Jvm.Cond.instanceMethod ({ cls := "com/example/hornstone/hornstone/read/Position", name := "line", desc := "()I" } : Jvm.MethodName)).before a0 Z = true := hw _ (List.mem_of_getElem? (i := 65) rfl)
theorem w66 {a0 : Array Value} {Z : State} (hw : Hw a0 Z) : (Jvm.Cond.selects "com/example/hornstone/hornstone/read/Position" ({ cls := "com/example/hornstone/hornstone/read/Position", name := "line", desc := "()I" } : Jvm.MethodName) ({ cls := "com/example/hornstone/hornstone/read/Position", name := "line", desc := "()I" } : Jvm.MethodName)).before a0 Z = true := hw _ (List.mem_of_getElem? (i := 66) rfl)
theorem w67 {a0 : Array Value} {Z : State} (hw : Hw a0 Z) : (Jvm.Cond.code ({ cls := "com/example/hornstone/hornstone/read/Position", name := "line", desc := "()I" } : Jvm.MethodName) prog_103_method_6_code (1 : Nat) (Option.some Jvm.ClassFile.FieldType.int)).before a0 Z = true := hw _ (List.mem_of_getElem? (i := 67) rfl)
theorem w68 {a0 : Array Value} {Z : State} (hw : Hw a0 Z) : (Jvm.Cond.methodLink "com/example/hornstone/hornstone/read/PositionStepBackPinLaw" (37 : Nat) ({ cls := "com/example/hornstone/hornstone/read/Position", name := "column", desc := "()I" } : Jvm.MethodName)).before a0 Z = true := hw _ (List.mem_of_getElem? (i := 68) rfl)
theorem w69 {a0 : Array Value} {Z : State} (hw : Hw a0 Z) : (Jvm.Cond.declares ({ cls := "com/example/hornstone/hornstone/read/Position", name := "column", desc := "()I" } : Jvm.MethodName)).before a0 Z = true := hw _ (List.mem_of_getElem? (i := 69) rfl)
theorem w70 {a0 : Array Value} {Z : State} (hw : Hw a0 Z) : (Jvm.Cond.instanceMethod ({ cls := "com/example/hornstone/hornstone/read/Position", name := "column", desc := "()I" } : Jvm.MethodName)).before a0 Z = true := hw _ (List.mem_of_getElem? (i := 70) rfl)
theorem w71 {a0 : Array Value} {Z : State} (hw : Hw a0 Z) : (Jvm.Cond.selects "com/example/hornstone/hornstone/read/Position" ({ cls := "com/example/hornstone/hornstone/read/Position", name := "column", desc := "()I" } : Jvm.MethodName) ({ cls := "com/example/hornstone/hornstone/read/Position", name := "column", desc := "()I" } : Jvm.MethodName)).before a0 Z = true := hw _ (List.mem_of_getElem? (i := 71) rfl)
theorem w72 {a0 : Array Value} {Z : State} (hw : Hw a0 Z) : (Jvm.Cond.code ({ cls := "com/example/hornstone/hornstone/read/Position", name := "column", desc := "()I" } : Jvm.MethodName) prog_103_method_7_code (1 : Nat) (Option.some Jvm.ClassFile.FieldType.int)).before a0 Z = true := hw _ (List.mem_of_getElem? (i := 72) rfl)
theorem w73 {a0 : Array Value} {Z : State} (hw : Hw a0 Z) : (Jvm.Cond.methodLink "com/example/hornstone/hornstone/read/PositionStepBackPinLaw" (40 : Nat) ({ cls := "com/example/hornstone/hornstone/read/Position", name := "nextLine", desc := "()I" } : Jvm.MethodName)).before a0 Z = true := hw _ (List.mem_of_getElem? (i := 73) rfl)
theorem w74 {a0 : Array Value} {Z : State} (hw : Hw a0 Z) : (Jvm.Cond.declares ({ cls := "com/example/hornstone/hornstone/read/Position", name := "nextLine", desc := "()I" } : Jvm.MethodName)).before a0 Z = true := hw _ (List.mem_of_getElem? (i := 74) rfl)
theorem w75 {a0 : Array Value} {Z : State} (hw : Hw a0 Z) : (Jvm.Cond.instanceMethod ({ cls := "com/example/hornstone/hornstone/read/Position", name := "nextLine", desc := "()I" } : Jvm.MethodName)).before a0 Z = true := hw _ (List.mem_of_getElem? (i := 75) rfl)
theorem w76 {a0 : Array Value} {Z : State} (hw : Hw a0 Z) : (Jvm.Cond.selects "com/example/hornstone/hornstone/read/Position" ({ cls := "com/example/hornstone/hornstone/read/Position", name := "nextLine", desc := "()I" } : Jvm.MethodName) ({ cls := "com/example/hornstone/hornstone/read/Position", name := "nextLine", desc := "()I" } : Jvm.MethodName)).before a0 Z = true := hw _ (List.mem_of_getElem? (i := 76) rfl)
theorem w77 {a0 : Array Value} {Z : State} (hw : Hw a0 Z) : (Jvm.Cond.code ({ cls := "com/example/hornstone/hornstone/read/Position", name := "nextLine", desc := "()I" } : Jvm.MethodName) prog_103_method_8_code (1 : Nat) (Option.some Jvm.ClassFile.FieldType.int)).before a0 Z = true := hw _ (List.mem_of_getElem? (i := 77) rfl)
theorem w78 {a0 : Array Value} {Z : State} (hw : Hw a0 Z) : (Jvm.Cond.methodLink "com/example/hornstone/hornstone/read/PositionStepBackPinLaw" (43 : Nat) ({ cls := "com/example/hornstone/hornstone/read/Position", name := "advance", desc := "(I)V" } : Jvm.MethodName)).before a0 Z = true := hw _ (List.mem_of_getElem? (i := 78) rfl)
theorem w79 {a0 : Array Value} {Z : State} (hw : Hw a0 Z) : (Jvm.Cond.constant "com/example/hornstone/hornstone/read/PositionStepBackPinLaw" (9 : Nat) (55296 : Int32)).before a0 Z = true := hw _ (List.mem_of_getElem? (i := 79) rfl)
theorem w80 {a0 : Array Value} {Z : State} (hw : Hw a0 Z) : (Jvm.Cond.constant "com/example/hornstone/hornstone/read/PositionStepBackPinLaw" (8 : Nat) (56320 : Int32)).before a0 Z = true := hw _ (List.mem_of_getElem? (i := 80) rfl)
theorem w81 {a0 : Array Value} {Z : State} (hw : Hw a0 Z) : (Jvm.Cond.constant "java/lang/Character" (77 : Nat) (57344 : Int32)).before a0 Z = true := hw _ (List.mem_of_getElem? (i := 81) rfl)
theorem pd0 : parseMethodDescriptor "(II)I" = some ⟨[.int, .int], some .int⟩ := by decide +kernel
theorem pd1 : parseMethodDescriptor "(C)Z" = some ⟨[.char], some .boolean⟩ := by decide +kernel
theorem pd2 : parseMethodDescriptor "(I)V" = some ⟨[.int], none⟩ := by decide +kernel
theorem pd3 : parseMethodDescriptor "(JIJI)C" = some ⟨[.long, .int, .long, .int], some .char⟩ := by decide +kernel
theorem pd4 : parseMethodDescriptor "()V" = some ⟨[], none⟩ := by decide +kernel
theorem pd5 : parseMethodDescriptor "([CII)V" = some ⟨[(.array .char), .int, .int], none⟩ := by decide +kernel
theorem pd6 : parseMethodDescriptor "()I" = some ⟨[], some .int⟩ := by decide +kernel
abbrev K0 : Mt := (x, code, maxLocals, ret, room_1)
def K1 : Mt := (⟨"com/example/hornstone/hornstone/read/PositionStepBackPinLaw", "pick", "(JIJI)C"⟩, method_2_code, 8, some .char, ⟨0, 0, 0, 0⟩)
def K2 : Mt := (⟨"java/lang/Math", "max", "(II)I"⟩, jdk_29_method_65_code, 2, some .int, ⟨0, 0, 0, 0⟩)
def K3 : Mt := (⟨"com/example/hornstone/hornstone/read/Position", "<init>", "()V"⟩, prog_103_method_1_code, 1, none, ⟨1, 3, 48, 12⟩)
def K5 : Mt := (⟨"com/example/hornstone/hornstone/read/Position", "advance", "([CII)V"⟩, prog_103_method_3_code, 7, none, ⟨2, 0, 0, 30⟩)
def K6 : Mt := (⟨"com/example/hornstone/hornstone/read/Position", "advance", "(I)V"⟩, prog_103_method_2_code, 4, none, ⟨1, 0, 0, 14⟩)
def K7 : Mt := (⟨"java/lang/Math", "min", "(II)I"⟩, jdk_29_method_69_code, 2, some .int, ⟨0, 0, 0, 0⟩)
def K8 : Mt := (⟨"java/lang/Character", "isLowSurrogate", "(C)Z"⟩, jdk_89_method_15_code, 1, some .boolean, ⟨0, 0, 0, 0⟩)
def K9 : Mt := (⟨"com/example/hornstone/hornstone/read/Position", "stepBack", "()V"⟩, prog_103_method_5_code, 1, none, ⟨0, 0, 0, 0⟩)
def K10 : Mt := (⟨"com/example/hornstone/hornstone/read/Position", "line", "()I"⟩, prog_103_method_6_code, 1, some .int, ⟨0, 0, 0, 0⟩)
def K11 : Mt := (⟨"com/example/hornstone/hornstone/read/Position", "column", "()I"⟩, prog_103_method_7_code, 1, some .int, ⟨0, 0, 0, 0⟩)
def K12 : Mt := (⟨"com/example/hornstone/hornstone/read/Position", "nextLine", "()I"⟩, prog_103_method_8_code, 1, some .int, ⟨0, 0, 0, 0⟩)
theorem d0_0 : decode K0.bytes 0 = .ok (.bipush 20, 2) := at_0
theorem d0_2 : decode K0.bytes 2 = .ok (.newarray .char, 2) := at_2
theorem d0_4 : decode K0.bytes 4 = .ok (.astore 8, 2) := at_4
theorem d0_6 : decode K0.bytes 6 = .ok (.aload 8, 2) := at_6
theorem d0_8 : decode K0.bytes 8 = .ok (.iconst 0, 1) := at_8
theorem d0_9 : decode K0.bytes 9 = .ok (.lload_n 0, 1) := at_9
theorem d0_10 : decode K0.bytes 10 = .ok (.iconst 0, 1) := at_10
theorem d0_11 : decode K0.bytes 11 = .ok (.lload_n 2, 1) := at_11
theorem d0_12 : decode K0.bytes 12 = .ok (.iconst 0, 1) := at_12
theorem d0_13 : decode K0.bytes 13 = .ok (.invokestatic 10, 3) := at_13
theorem d0_16 : decode K0.bytes 16 = .ok (.castore, 1) := at_16
theorem d0_17 : decode K0.bytes 17 = .ok (.aload 8, 2) := at_17
theorem d0_19 : decode K0.bytes 19 = .ok (.iconst 1, 1) := at_19
theorem d0_20 : decode K0.bytes 20 = .ok (.lload_n 0, 1) := at_20
theorem d0_21 : decode K0.bytes 21 = .ok (.iconst 1, 1) := at_21
theorem d0_22 : decode K0.bytes 22 = .ok (.lload_n 2, 1) := at_22
theorem d0_23 : decode K0.bytes 23 = .ok (.iconst 1, 1) := at_23
theorem d0_24 : decode K0.bytes 24 = .ok (.invokestatic 10, 3) := at_24
theorem d0_27 : decode K0.bytes 27 = .ok (.castore, 1) := at_27
theorem d0_28 : decode K0.bytes 28 = .ok (.aload 8, 2) := at_28
theorem d0_30 : decode K0.bytes 30 = .ok (.iconst 2, 1) := at_30
theorem d0_31 : decode K0.bytes 31 = .ok (.lload_n 0, 1) := at_31
theorem d0_32 : decode K0.bytes 32 = .ok (.iconst 2, 1) := at_32
theorem d0_33 : decode K0.bytes 33 = .ok (.lload_n 2, 1) := at_33
theorem d0_34 : decode K0.bytes 34 = .ok (.iconst 2, 1) := at_34
theorem d0_35 : decode K0.bytes 35 = .ok (.invokestatic 10, 3) := at_35
theorem d0_38 : decode K0.bytes 38 = .ok (.castore, 1) := at_38
theorem d0_39 : decode K0.bytes 39 = .ok (.aload 8, 2) := at_39
theorem d0_41 : decode K0.bytes 41 = .ok (.iconst 3, 1) := at_41
theorem d0_42 : decode K0.bytes 42 = .ok (.lload_n 0, 1) := at_42
theorem d0_43 : decode K0.bytes 43 = .ok (.iconst 3, 1) := at_43
theorem d0_44 : decode K0.bytes 44 = .ok (.lload_n 2, 1) := at_44
theorem d0_45 : decode K0.bytes 45 = .ok (.iconst 3, 1) := at_45
theorem d0_46 : decode K0.bytes 46 = .ok (.invokestatic 10, 3) := at_46
theorem d0_49 : decode K0.bytes 49 = .ok (.castore, 1) := at_49
theorem d0_50 : decode K0.bytes 50 = .ok (.aload 8, 2) := at_50
theorem d0_52 : decode K0.bytes 52 = .ok (.iconst 4, 1) := at_52
theorem d0_53 : decode K0.bytes 53 = .ok (.lload_n 0, 1) := at_53
theorem d0_54 : decode K0.bytes 54 = .ok (.iconst 4, 1) := at_54
theorem d0_55 : decode K0.bytes 55 = .ok (.lload_n 2, 1) := at_55
theorem d0_56 : decode K0.bytes 56 = .ok (.iconst 4, 1) := at_56
theorem d0_57 : decode K0.bytes 57 = .ok (.invokestatic 10, 3) := at_57
theorem d0_60 : decode K0.bytes 60 = .ok (.castore, 1) := at_60
theorem d0_61 : decode K0.bytes 61 = .ok (.aload 8, 2) := at_61
theorem d0_63 : decode K0.bytes 63 = .ok (.iconst 5, 1) := at_63
theorem d0_64 : decode K0.bytes 64 = .ok (.lload_n 0, 1) := at_64
theorem d0_65 : decode K0.bytes 65 = .ok (.iconst 5, 1) := at_65
theorem d0_66 : decode K0.bytes 66 = .ok (.lload_n 2, 1) := at_66
theorem d0_67 : decode K0.bytes 67 = .ok (.iconst 5, 1) := at_67
theorem d0_68 : decode K0.bytes 68 = .ok (.invokestatic 10, 3) := at_68
theorem d0_71 : decode K0.bytes 71 = .ok (.castore, 1) := at_71
theorem d0_72 : decode K0.bytes 72 = .ok (.aload 8, 2) := at_72
theorem d0_74 : decode K0.bytes 74 = .ok (.bipush 6, 2) := at_74
theorem d0_76 : decode K0.bytes 76 = .ok (.lload_n 0, 1) := at_76
theorem d0_77 : decode K0.bytes 77 = .ok (.bipush 6, 2) := at_77
theorem d0_79 : decode K0.bytes 79 = .ok (.lload_n 2, 1) := at_79
theorem d0_80 : decode K0.bytes 80 = .ok (.bipush 6, 2) := at_80
theorem d0_82 : decode K0.bytes 82 = .ok (.invokestatic 10, 3) := at_82
theorem d0_85 : decode K0.bytes 85 = .ok (.castore, 1) := at_85
theorem d0_86 : decode K0.bytes 86 = .ok (.aload 8, 2) := at_86
theorem d0_88 : decode K0.bytes 88 = .ok (.bipush 7, 2) := at_88
theorem d0_90 : decode K0.bytes 90 = .ok (.lload_n 0, 1) := at_90
theorem d0_91 : decode K0.bytes 91 = .ok (.bipush 7, 2) := at_91
theorem d0_93 : decode K0.bytes 93 = .ok (.lload_n 2, 1) := at_93
theorem d0_94 : decode K0.bytes 94 = .ok (.bipush 7, 2) := at_94
theorem d0_96 : decode K0.bytes 96 = .ok (.invokestatic 10, 3) := at_96
theorem d0_99 : decode K0.bytes 99 = .ok (.castore, 1) := at_99
theorem d0_100 : decode K0.bytes 100 = .ok (.aload 8, 2) := at_100
theorem d0_102 : decode K0.bytes 102 = .ok (.bipush 8, 2) := at_102
theorem d0_104 : decode K0.bytes 104 = .ok (.lload_n 0, 1) := at_104
theorem d0_105 : decode K0.bytes 105 = .ok (.bipush 8, 2) := at_105
theorem d0_107 : decode K0.bytes 107 = .ok (.lload_n 2, 1) := at_107
theorem d0_108 : decode K0.bytes 108 = .ok (.bipush 8, 2) := at_108
theorem d0_110 : decode K0.bytes 110 = .ok (.invokestatic 10, 3) := at_110
theorem d0_113 : decode K0.bytes 113 = .ok (.castore, 1) := at_113
theorem d0_114 : decode K0.bytes 114 = .ok (.aload 8, 2) := at_114
theorem d0_116 : decode K0.bytes 116 = .ok (.bipush 9, 2) := at_116
theorem d0_118 : decode K0.bytes 118 = .ok (.lload_n 0, 1) := at_118
theorem d0_119 : decode K0.bytes 119 = .ok (.bipush 9, 2) := at_119
theorem d0_121 : decode K0.bytes 121 = .ok (.lload_n 2, 1) := at_121
theorem d0_122 : decode K0.bytes 122 = .ok (.bipush 9, 2) := at_122
theorem d0_124 : decode K0.bytes 124 = .ok (.invokestatic 10, 3) := at_124
theorem d0_127 : decode K0.bytes 127 = .ok (.castore, 1) := at_127
theorem d0_128 : decode K0.bytes 128 = .ok (.aload 8, 2) := at_128
theorem d0_130 : decode K0.bytes 130 = .ok (.bipush 10, 2) := at_130
theorem d0_132 : decode K0.bytes 132 = .ok (.lload_n 0, 1) := at_132
theorem d0_133 : decode K0.bytes 133 = .ok (.bipush 10, 2) := at_133
theorem d0_135 : decode K0.bytes 135 = .ok (.lload 4, 2) := at_135
theorem d0_137 : decode K0.bytes 137 = .ok (.iconst 0, 1) := at_137
theorem d0_138 : decode K0.bytes 138 = .ok (.invokestatic 10, 3) := at_138
theorem d0_141 : decode K0.bytes 141 = .ok (.castore, 1) := at_141
theorem d0_142 : decode K0.bytes 142 = .ok (.aload 8, 2) := at_142
theorem d0_144 : decode K0.bytes 144 = .ok (.bipush 11, 2) := at_144
theorem d0_146 : decode K0.bytes 146 = .ok (.lload_n 0, 1) := at_146
theorem d0_147 : decode K0.bytes 147 = .ok (.bipush 11, 2) := at_147
theorem d0_149 : decode K0.bytes 149 = .ok (.lload 4, 2) := at_149
theorem d0_151 : decode K0.bytes 151 = .ok (.iconst 1, 1) := at_151
theorem d0_152 : decode K0.bytes 152 = .ok (.invokestatic 10, 3) := at_152
theorem d0_155 : decode K0.bytes 155 = .ok (.castore, 1) := at_155
theorem d0_156 : decode K0.bytes 156 = .ok (.aload 8, 2) := at_156
theorem d0_158 : decode K0.bytes 158 = .ok (.bipush 12, 2) := at_158
theorem d0_160 : decode K0.bytes 160 = .ok (.lload_n 0, 1) := at_160
theorem d0_161 : decode K0.bytes 161 = .ok (.bipush 12, 2) := at_161
theorem d0_163 : decode K0.bytes 163 = .ok (.lload 4, 2) := at_163
theorem d0_165 : decode K0.bytes 165 = .ok (.iconst 2, 1) := at_165
theorem d0_166 : decode K0.bytes 166 = .ok (.invokestatic 10, 3) := at_166
theorem d0_169 : decode K0.bytes 169 = .ok (.castore, 1) := at_169
theorem d0_170 : decode K0.bytes 170 = .ok (.aload 8, 2) := at_170
theorem d0_172 : decode K0.bytes 172 = .ok (.bipush 13, 2) := at_172
theorem d0_174 : decode K0.bytes 174 = .ok (.lload_n 0, 1) := at_174
theorem d0_175 : decode K0.bytes 175 = .ok (.bipush 13, 2) := at_175
theorem d0_177 : decode K0.bytes 177 = .ok (.lload 4, 2) := at_177
theorem d0_179 : decode K0.bytes 179 = .ok (.iconst 3, 1) := at_179
theorem d0_180 : decode K0.bytes 180 = .ok (.invokestatic 10, 3) := at_180
theorem d0_183 : decode K0.bytes 183 = .ok (.castore, 1) := at_183
theorem d0_184 : decode K0.bytes 184 = .ok (.aload 8, 2) := at_184
theorem d0_186 : decode K0.bytes 186 = .ok (.bipush 14, 2) := at_186
theorem d0_188 : decode K0.bytes 188 = .ok (.lload_n 0, 1) := at_188
theorem d0_189 : decode K0.bytes 189 = .ok (.bipush 14, 2) := at_189
theorem d0_191 : decode K0.bytes 191 = .ok (.lload 4, 2) := at_191
theorem d0_193 : decode K0.bytes 193 = .ok (.iconst 4, 1) := at_193
theorem d0_194 : decode K0.bytes 194 = .ok (.invokestatic 10, 3) := at_194
theorem d0_197 : decode K0.bytes 197 = .ok (.castore, 1) := at_197
theorem d0_198 : decode K0.bytes 198 = .ok (.aload 8, 2) := at_198
theorem d0_200 : decode K0.bytes 200 = .ok (.bipush 15, 2) := at_200
theorem d0_202 : decode K0.bytes 202 = .ok (.lload_n 0, 1) := at_202
theorem d0_203 : decode K0.bytes 203 = .ok (.bipush 15, 2) := at_203
theorem d0_205 : decode K0.bytes 205 = .ok (.lload 4, 2) := at_205
theorem d0_207 : decode K0.bytes 207 = .ok (.iconst 5, 1) := at_207
theorem d0_208 : decode K0.bytes 208 = .ok (.invokestatic 10, 3) := at_208
theorem d0_211 : decode K0.bytes 211 = .ok (.castore, 1) := at_211
theorem d0_212 : decode K0.bytes 212 = .ok (.aload 8, 2) := at_212
theorem d0_214 : decode K0.bytes 214 = .ok (.bipush 16, 2) := at_214
theorem d0_216 : decode K0.bytes 216 = .ok (.lload_n 0, 1) := at_216
theorem d0_217 : decode K0.bytes 217 = .ok (.bipush 16, 2) := at_217
theorem d0_219 : decode K0.bytes 219 = .ok (.lload 4, 2) := at_219
theorem d0_221 : decode K0.bytes 221 = .ok (.bipush 6, 2) := at_221
theorem d0_223 : decode K0.bytes 223 = .ok (.invokestatic 10, 3) := at_223
theorem d0_226 : decode K0.bytes 226 = .ok (.castore, 1) := at_226
theorem d0_227 : decode K0.bytes 227 = .ok (.aload 8, 2) := at_227
theorem d0_229 : decode K0.bytes 229 = .ok (.bipush 17, 2) := at_229
theorem d0_231 : decode K0.bytes 231 = .ok (.lload_n 0, 1) := at_231
theorem d0_232 : decode K0.bytes 232 = .ok (.bipush 17, 2) := at_232
theorem d0_234 : decode K0.bytes 234 = .ok (.lload 4, 2) := at_234
theorem d0_236 : decode K0.bytes 236 = .ok (.bipush 7, 2) := at_236
theorem d0_238 : decode K0.bytes 238 = .ok (.invokestatic 10, 3) := at_238
theorem d0_241 : decode K0.bytes 241 = .ok (.castore, 1) := at_241
theorem d0_242 : decode K0.bytes 242 = .ok (.aload 8, 2) := at_242
theorem d0_244 : decode K0.bytes 244 = .ok (.bipush 18, 2) := at_244
theorem d0_246 : decode K0.bytes 246 = .ok (.lload_n 0, 1) := at_246
theorem d0_247 : decode K0.bytes 247 = .ok (.bipush 18, 2) := at_247
theorem d0_249 : decode K0.bytes 249 = .ok (.lload 4, 2) := at_249
theorem d0_251 : decode K0.bytes 251 = .ok (.bipush 8, 2) := at_251
theorem d0_253 : decode K0.bytes 253 = .ok (.invokestatic 10, 3) := at_253
theorem d0_256 : decode K0.bytes 256 = .ok (.castore, 1) := at_256
theorem d0_257 : decode K0.bytes 257 = .ok (.aload 8, 2) := at_257
theorem d0_259 : decode K0.bytes 259 = .ok (.bipush 19, 2) := at_259
theorem d0_261 : decode K0.bytes 261 = .ok (.lload_n 0, 1) := at_261
theorem d0_262 : decode K0.bytes 262 = .ok (.bipush 19, 2) := at_262
theorem d0_264 : decode K0.bytes 264 = .ok (.lload 4, 2) := at_264
theorem d0_266 : decode K0.bytes 266 = .ok (.bipush 9, 2) := at_266
theorem d0_268 : decode K0.bytes 268 = .ok (.invokestatic 10, 3) := at_268
theorem d0_271 : decode K0.bytes 271 = .ok (.castore, 1) := at_271
theorem d0_272 : decode K0.bytes 272 = .ok (.iload 6, 2) := at_272
theorem d0_274 : decode K0.bytes 274 = .ok (.ldc 16, 2) := at_274
theorem d0_276 : decode K0.bytes 276 = .ok (.iand, 1) := at_276
theorem d0_277 : decode K0.bytes 277 = .ok (.bipush 21, 2) := at_277
theorem d0_279 : decode K0.bytes 279 = .ok (.irem, 1) := at_279
theorem d0_280 : decode K0.bytes 280 = .ok (.istore 9, 2) := at_280
theorem d0_282 : decode K0.bytes 282 = .ok (.iload 7, 2) := at_282
theorem d0_284 : decode K0.bytes 284 = .ok (.iconst 3, 1) := at_284
theorem d0_285 : decode K0.bytes 285 = .ok (.iand, 1) := at_285
theorem d0_286 : decode K0.bytes 286 = .ok (.istore 10, 2) := at_286
theorem d0_288 : decode K0.bytes 288 = .ok (.iload 9, 2) := at_288
theorem d0_290 : decode K0.bytes 290 = .ok (.iload 10, 2) := at_290
theorem d0_292 : decode K0.bytes 292 = .ok (.isub, 1) := at_292
theorem d0_293 : decode K0.bytes 293 = .ok (.iconst 0, 1) := at_293
theorem d0_294 : decode K0.bytes 294 = .ok (.invokestatic 17, 3) := at_294
theorem d0_297 : decode K0.bytes 297 = .ok (.istore 11, 2) := at_297
theorem d0_299 : decode K0.bytes 299 = .ok (.new 23, 3) := at_299
theorem d0_302 : decode K0.bytes 302 = .ok (.dup, 1) := at_302
theorem d0_303 : decode K0.bytes 303 = .ok (.invokespecial 25, 3) := at_303
theorem d0_306 : decode K0.bytes 306 = .ok (.astore 12, 2) := at_306
theorem d0_308 : decode K0.bytes 308 = .ok (.aload 12, 2) := at_308
theorem d0_310 : decode K0.bytes 310 = .ok (.aload 8, 2) := at_310
theorem d0_312 : decode K0.bytes 312 = .ok (.iconst 0, 1) := at_312
theorem d0_313 : decode K0.bytes 313 = .ok (.iload 9, 2) := at_313
theorem d0_315 : decode K0.bytes 315 = .ok (.invokevirtual 26, 3) := at_315
theorem d0_318 : decode K0.bytes 318 = .ok (.iload 10, 2) := at_318
theorem d0_320 : decode K0.bytes 320 = .ok (.iconst 1, 1) := at_320
theorem d0_321 : decode K0.bytes 321 = .ok (.if_icmp .lt 8, 3) := at_321
theorem d0_324 : decode K0.bytes 324 = .ok (.aload 12, 2) := at_324
theorem d0_326 : decode K0.bytes 326 = .ok (.invokevirtual 30, 3) := at_326
theorem d0_329 : decode K0.bytes 329 = .ok (.iload 10, 2) := at_329
theorem d0_331 : decode K0.bytes 331 = .ok (.iconst 2, 1) := at_331
theorem d0_332 : decode K0.bytes 332 = .ok (.if_icmp .lt 8, 3) := at_332
theorem d0_335 : decode K0.bytes 335 = .ok (.aload 12, 2) := at_335
theorem d0_337 : decode K0.bytes 337 = .ok (.invokevirtual 30, 3) := at_337
theorem d0_340 : decode K0.bytes 340 = .ok (.iload 10, 2) := at_340
theorem d0_342 : decode K0.bytes 342 = .ok (.iconst 3, 1) := at_342
theorem d0_343 : decode K0.bytes 343 = .ok (.if_icmp .lt 8, 3) := at_343
theorem d0_346 : decode K0.bytes 346 = .ok (.aload 12, 2) := at_346
theorem d0_348 : decode K0.bytes 348 = .ok (.invokevirtual 30, 3) := at_348
theorem d0_351 : decode K0.bytes 351 = .ok (.new 23, 3) := at_351
theorem d0_354 : decode K0.bytes 354 = .ok (.dup, 1) := at_354
theorem d0_355 : decode K0.bytes 355 = .ok (.invokespecial 25, 3) := at_355
theorem d0_358 : decode K0.bytes 358 = .ok (.astore 13, 2) := at_358
theorem d0_360 : decode K0.bytes 360 = .ok (.aload 13, 2) := at_360
theorem d0_362 : decode K0.bytes 362 = .ok (.aload 8, 2) := at_362
theorem d0_364 : decode K0.bytes 364 = .ok (.iconst 0, 1) := at_364
theorem d0_365 : decode K0.bytes 365 = .ok (.iload 11, 2) := at_365
theorem d0_367 : decode K0.bytes 367 = .ok (.invokevirtual 26, 3) := at_367
theorem d0_370 : decode K0.bytes 370 = .ok (.aload 12, 2) := at_370
theorem d0_372 : decode K0.bytes 372 = .ok (.invokevirtual 33, 3) := at_372
theorem d0_375 : decode K0.bytes 375 = .ok (.aload 13, 2) := at_375
theorem d0_377 : decode K0.bytes 377 = .ok (.invokevirtual 33, 3) := at_377
theorem d0_380 : decode K0.bytes 380 = .ok (.if_icmp .ne 33, 3) := at_380
theorem d0_383 : decode K0.bytes 383 = .ok (.aload 12, 2) := at_383
theorem d0_385 : decode K0.bytes 385 = .ok (.invokevirtual 37, 3) := at_385
theorem d0_388 : decode K0.bytes 388 = .ok (.aload 13, 2) := at_388
theorem d0_390 : decode K0.bytes 390 = .ok (.invokevirtual 37, 3) := at_390
theorem d0_393 : decode K0.bytes 393 = .ok (.if_icmp .ne 20, 3) := at_393
theorem d0_396 : decode K0.bytes 396 = .ok (.aload 12, 2) := at_396
theorem d0_398 : decode K0.bytes 398 = .ok (.invokevirtual 40, 3) := at_398
theorem d0_401 : decode K0.bytes 401 = .ok (.aload 13, 2) := at_401
theorem d0_403 : decode K0.bytes 403 = .ok (.invokevirtual 40, 3) := at_403
theorem d0_406 : decode K0.bytes 406 = .ok (.if_icmp .ne 7, 3) := at_406
theorem d0_409 : decode K0.bytes 409 = .ok (.iconst 1, 1) := at_409
theorem d0_410 : decode K0.bytes 410 = .ok (.goto 4, 3) := at_410
theorem d0_414 : decode K0.bytes 414 = .ok (.istore 14, 2) := at_414
theorem d0_416 : decode K0.bytes 416 = .ok (.aload 12, 2) := at_416
theorem d0_418 : decode K0.bytes 418 = .ok (.bipush 10, 2) := at_418
theorem d0_420 : decode K0.bytes 420 = .ok (.invokevirtual 43, 3) := at_420
theorem d0_423 : decode K0.bytes 423 = .ok (.aload 13, 2) := at_423
theorem d0_425 : decode K0.bytes 425 = .ok (.bipush 10, 2) := at_425
theorem d0_427 : decode K0.bytes 427 = .ok (.invokevirtual 43, 3) := at_427
theorem d0_430 : decode K0.bytes 430 = .ok (.iload 14, 2) := at_430
theorem d0_432 : decode K0.bytes 432 = .ok (.ifCond .eq 20, 3) := at_432
theorem d0_435 : decode K0.bytes 435 = .ok (.aload 12, 2) := at_435
theorem d0_437 : decode K0.bytes 437 = .ok (.invokevirtual 33, 3) := at_437
theorem d0_440 : decode K0.bytes 440 = .ok (.aload 13, 2) := at_440
theorem d0_442 : decode K0.bytes 442 = .ok (.invokevirtual 33, 3) := at_442
theorem d0_445 : decode K0.bytes 445 = .ok (.if_icmp .ne 7, 3) := at_445
theorem d0_448 : decode K0.bytes 448 = .ok (.iconst 1, 1) := at_448
theorem d0_449 : decode K0.bytes 449 = .ok (.goto 4, 3) := at_449
theorem d0_453 : decode K0.bytes 453 = .ok (.ireturn, 1) := at_453
theorem d1_0 : decode K1.bytes 0 = .ok (.lload_n 0, 1) := by decide +kernel
theorem d1_1 : decode K1.bytes 1 = .ok (.iconst 3, 1) := by decide +kernel
theorem d1_2 : decode K1.bytes 2 = .ok (.iload_n 2, 1) := by decide +kernel
theorem d1_3 : decode K1.bytes 3 = .ok (.imul, 1) := by decide +kernel
theorem d1_4 : decode K1.bytes 4 = .ok (.lushr, 1) := by decide +kernel
theorem d1_5 : decode K1.bytes 5 = .ok (.l2i, 1) := by decide +kernel
theorem d1_6 : decode K1.bytes 6 = .ok (.bipush 7, 2) := by decide +kernel
theorem d1_8 : decode K1.bytes 8 = .ok (.iand, 1) := by decide +kernel
theorem d1_9 : decode K1.bytes 9 = .ok (.istore 6, 2) := by decide +kernel
theorem d1_11 : decode K1.bytes 11 = .ok (.lload_n 3, 1) := by decide +kernel
theorem d1_12 : decode K1.bytes 12 = .ok (.iconst 5, 1) := by decide +kernel
theorem d1_13 : decode K1.bytes 13 = .ok (.iload 5, 2) := by decide +kernel
theorem d1_15 : decode K1.bytes 15 = .ok (.imul, 1) := by decide +kernel
theorem d1_16 : decode K1.bytes 16 = .ok (.lushr, 1) := by decide +kernel
theorem d1_17 : decode K1.bytes 17 = .ok (.l2i, 1) := by decide +kernel
theorem d1_18 : decode K1.bytes 18 = .ok (.ldc 7, 2) := by decide +kernel
theorem d1_20 : decode K1.bytes 20 = .ok (.iand, 1) := by decide +kernel
theorem d1_21 : decode K1.bytes 21 = .ok (.istore 7, 2) := by decide +kernel
theorem d1_23 : decode K1.bytes 23 = .ok (.iload 6, 2) := by decide +kernel
theorem d1_25 : decode K1.bytes 25 = .ok (.ifCond .eq 9, 3) := by decide +kernel
theorem d1_28 : decode K1.bytes 28 = .ok (.iload 6, 2) := by decide +kernel
theorem d1_30 : decode K1.bytes 30 = .ok (.iconst 1, 1) := by decide +kernel
theorem d1_31 : decode K1.bytes 31 = .ok (.if_icmp .ne 6, 3) := by decide +kernel
theorem d1_34 : decode K1.bytes 34 = .ok (.bipush 10, 2) := by decide +kernel
theorem d1_36 : decode K1.bytes 36 = .ok (.ireturn, 1) := by decide +kernel
theorem d1_37 : decode K1.bytes 37 = .ok (.iload 6, 2) := by decide +kernel
theorem d1_39 : decode K1.bytes 39 = .ok (.iconst 2, 1) := by decide +kernel
theorem d1_40 : decode K1.bytes 40 = .ok (.if_icmp .eq 9, 3) := by decide +kernel
theorem d1_43 : decode K1.bytes 43 = .ok (.iload 6, 2) := by decide +kernel
theorem d1_45 : decode K1.bytes 45 = .ok (.iconst 3, 1) := by decide +kernel
theorem d1_46 : decode K1.bytes 46 = .ok (.if_icmp .ne 6, 3) := by decide +kernel
theorem d1_49 : decode K1.bytes 49 = .ok (.bipush 13, 2) := by decide +kernel
theorem d1_51 : decode K1.bytes 51 = .ok (.ireturn, 1) := by decide +kernel
theorem d1_52 : decode K1.bytes 52 = .ok (.iload 6, 2) := by decide +kernel
theorem d1_54 : decode K1.bytes 54 = .ok (.iconst 4, 1) := by decide +kernel
theorem d1_55 : decode K1.bytes 55 = .ok (.if_icmp .ne 14, 3) := by decide +kernel
theorem d1_58 : decode K1.bytes 58 = .ok (.ldc 8, 2) := by decide +kernel
theorem d1_60 : decode K1.bytes 60 = .ok (.iload 7, 2) := by decide +kernel
theorem d1_62 : decode K1.bytes 62 = .ok (.sipush 1023, 3) := by decide +kernel
theorem d1_65 : decode K1.bytes 65 = .ok (.iand, 1) := by decide +kernel
theorem d1_66 : decode K1.bytes 66 = .ok (.iadd, 1) := by decide +kernel
theorem d1_67 : decode K1.bytes 67 = .ok (.i2c, 1) := by decide +kernel
theorem d1_68 : decode K1.bytes 68 = .ok (.ireturn, 1) := by decide +kernel
theorem d1_69 : decode K1.bytes 69 = .ok (.iload 6, 2) := by decide +kernel
theorem d1_71 : decode K1.bytes 71 = .ok (.iconst 5, 1) := by decide +kernel
theorem d1_72 : decode K1.bytes 72 = .ok (.if_icmp .ne 14, 3) := by decide +kernel
theorem d1_75 : decode K1.bytes 75 = .ok (.ldc 9, 2) := by decide +kernel
theorem d1_77 : decode K1.bytes 77 = .ok (.iload 7, 2) := by decide +kernel
theorem d1_79 : decode K1.bytes 79 = .ok (.sipush 1023, 3) := by decide +kernel
theorem d1_82 : decode K1.bytes 82 = .ok (.iand, 1) := by decide +kernel
theorem d1_83 : decode K1.bytes 83 = .ok (.iadd, 1) := by decide +kernel
theorem d1_84 : decode K1.bytes 84 = .ok (.i2c, 1) := by decide +kernel
theorem d1_85 : decode K1.bytes 85 = .ok (.ireturn, 1) := by decide +kernel
theorem d1_86 : decode K1.bytes 86 = .ok (.iload 7, 2) := by decide +kernel
theorem d1_88 : decode K1.bytes 88 = .ok (.i2c, 1) := by decide +kernel
theorem d1_89 : decode K1.bytes 89 = .ok (.ireturn, 1) := by decide +kernel
theorem d2_0 : decode K2.bytes 0 = .ok (.iload_n 0, 1) := by decide +kernel
theorem d2_1 : decode K2.bytes 1 = .ok (.iload_n 1, 1) := by decide +kernel
theorem d2_2 : decode K2.bytes 2 = .ok (.if_icmp .lt 7, 3) := by decide +kernel
theorem d2_5 : decode K2.bytes 5 = .ok (.iload_n 0, 1) := by decide +kernel
theorem d2_6 : decode K2.bytes 6 = .ok (.goto 4, 3) := by decide +kernel
theorem d2_9 : decode K2.bytes 9 = .ok (.iload_n 1, 1) := by decide +kernel
theorem d2_10 : decode K2.bytes 10 = .ok (.ireturn, 1) := by decide +kernel
theorem d3_0 : decode K3.bytes 0 = .ok (.aload_n 0, 1) := by decide +kernel
theorem d3_1 : decode K3.bytes 1 = .ok (.invokespecial 1, 3) := by decide +kernel
theorem d3_4 : decode K3.bytes 4 = .ok (.aload_n 0, 1) := by decide +kernel
theorem d3_5 : decode K3.bytes 5 = .ok (.bipush 16, 2) := by decide +kernel
theorem d3_7 : decode K3.bytes 7 = .ok (.newarray .int, 2) := by decide +kernel
theorem d3_9 : decode K3.bytes 9 = .ok (.putfield 9, 3) := by decide +kernel
theorem d3_12 : decode K3.bytes 12 = .ok (.aload_n 0, 1) := by decide +kernel
theorem d3_13 : decode K3.bytes 13 = .ok (.bipush 16, 2) := by decide +kernel
theorem d3_15 : decode K3.bytes 15 = .ok (.newarray .int, 2) := by decide +kernel
theorem d3_17 : decode K3.bytes 17 = .ok (.putfield 13, 3) := by decide +kernel
theorem d3_20 : decode K3.bytes 20 = .ok (.aload_n 0, 1) := by decide +kernel
theorem d3_21 : decode K3.bytes 21 = .ok (.bipush 16, 2) := by decide +kernel
theorem d3_23 : decode K3.bytes 23 = .ok (.newarray .byte, 2) := by decide +kernel
theorem d3_25 : decode K3.bytes 25 = .ok (.putfield 16, 3) := by decide +kernel
theorem d3_28 : decode K3.bytes 28 = .ok (.aload_n 0, 1) := by decide +kernel
theorem d3_29 : decode K3.bytes 29 = .ok (.iconst 1, 1) := by decide +kernel
theorem d3_30 : decode K3.bytes 30 = .ok (.putfield 20, 3) := by decide +kernel
theorem d3_33 : decode K3.bytes 33 = .ok (.aload_n 0, 1) := by decide +kernel
theorem d3_34 : decode K3.bytes 34 = .ok (.iconst 0, 1) := by decide +kernel
theorem d3_35 : decode K3.bytes 35 = .ok (.putfield 24, 3) := by decide +kernel
theorem d3_38 : decode K3.bytes 38 = .ok (.return_, 1) := by decide +kernel
theorem d5_0 : decode K5.bytes 0 = .ok (.iload_n 2, 1) := by decide +kernel
theorem d5_1 : decode K5.bytes 1 = .ok (.iload_n 3, 1) := by decide +kernel
theorem d5_2 : decode K5.bytes 2 = .ok (.bipush 16, 2) := by decide +kernel
theorem d5_4 : decode K5.bytes 4 = .ok (.isub, 1) := by decide +kernel
theorem d5_5 : decode K5.bytes 5 = .ok (.invokestatic 50, 3) := by decide +kernel
theorem d5_8 : decode K5.bytes 8 = .ok (.istore 4, 2) := by decide +kernel
theorem d5_10 : decode K5.bytes 10 = .ok (.iload_n 2, 1) := by decide +kernel
theorem d5_11 : decode K5.bytes 11 = .ok (.istore 5, 2) := by decide +kernel
theorem d5_13 : decode K5.bytes 13 = .ok (.iload 5, 2) := by decide +kernel
theorem d5_15 : decode K5.bytes 15 = .ok (.iload 4, 2) := by decide +kernel
theorem d5_17 : decode K5.bytes 17 = .ok (.if_icmp .ge 83, 3) := by decide +kernel
theorem d5_20 : decode K5.bytes 20 = .ok (.aload_n 1, 1) := by decide +kernel
theorem d5_21 : decode K5.bytes 21 = .ok (.iload 5, 2) := by decide +kernel
theorem d5_23 : decode K5.bytes 23 = .ok (.caload, 1) := by decide +kernel
theorem d5_24 : decode K5.bytes 24 = .ok (.istore 6, 2) := by decide +kernel
theorem d5_26 : decode K5.bytes 26 = .ok (.iload 6, 2) := by decide +kernel
theorem d5_28 : decode K5.bytes 28 = .ok (.bipush 10, 2) := by decide +kernel
theorem d5_30 : decode K5.bytes 30 = .ok (.if_icmp .eq 18, 3) := by decide +kernel
theorem d5_33 : decode K5.bytes 33 = .ok (.iload 6, 2) := by decide +kernel
theorem d5_35 : decode K5.bytes 35 = .ok (.bipush 13, 2) := by decide +kernel
theorem d5_37 : decode K5.bytes 37 = .ok (.if_icmp .eq 11, 3) := by decide +kernel
theorem d5_40 : decode K5.bytes 40 = .ok (.iload 6, 2) := by decide +kernel
theorem d5_42 : decode K5.bytes 42 = .ok (.invokestatic 46, 3) := by decide +kernel
theorem d5_45 : decode K5.bytes 45 = .ok (.ifCond .eq 12, 3) := by decide +kernel
theorem d5_48 : decode K5.bytes 48 = .ok (.aload_n 0, 1) := by decide +kernel
theorem d5_49 : decode K5.bytes 49 = .ok (.iload 6, 2) := by decide +kernel
theorem d5_51 : decode K5.bytes 51 = .ok (.invokevirtual 53, 3) := by decide +kernel
theorem d5_54 : decode K5.bytes 54 = .ok (.goto 40, 3) := by decide +kernel
theorem d5_57 : decode K5.bytes 57 = .ok (.aload_n 0, 1) := by decide +kernel
theorem d5_58 : decode K5.bytes 58 = .ok (.getfield 24, 3) := by decide +kernel
theorem d5_61 : decode K5.bytes 61 = .ok (.ifCond .eq 23, 3) := by decide +kernel
theorem d5_64 : decode K5.bytes 64 = .ok (.aload_n 0, 1) := by decide +kernel
theorem d5_65 : decode K5.bytes 65 = .ok (.dup, 1) := by decide +kernel
theorem d5_66 : decode K5.bytes 66 = .ok (.getfield 20, 3) := by decide +kernel
theorem d5_69 : decode K5.bytes 69 = .ok (.iconst 1, 1) := by decide +kernel
theorem d5_70 : decode K5.bytes 70 = .ok (.iadd, 1) := by decide +kernel
theorem d5_71 : decode K5.bytes 71 = .ok (.putfield 20, 3) := by decide +kernel
theorem d5_74 : decode K5.bytes 74 = .ok (.aload_n 0, 1) := by decide +kernel
theorem d5_75 : decode K5.bytes 75 = .ok (.iconst 0, 1) := by decide +kernel
theorem d5_76 : decode K5.bytes 76 = .ok (.putfield 31, 3) := by decide +kernel
theorem d5_79 : decode K5.bytes 79 = .ok (.aload_n 0, 1) := by decide +kernel
theorem d5_80 : decode K5.bytes 80 = .ok (.iconst 0, 1) := by decide +kernel
theorem d5_81 : decode K5.bytes 81 = .ok (.putfield 24, 3) := by decide +kernel
theorem d5_84 : decode K5.bytes 84 = .ok (.aload_n 0, 1) := by decide +kernel
theorem d5_85 : decode K5.bytes 85 = .ok (.dup, 1) := by decide +kernel
theorem d5_86 : decode K5.bytes 86 = .ok (.getfield 31, 3) := by decide +kernel
theorem d5_89 : decode K5.bytes 89 = .ok (.iconst 1, 1) := by decide +kernel
theorem d5_90 : decode K5.bytes 90 = .ok (.iadd, 1) := by decide +kernel
theorem d5_91 : decode K5.bytes 91 = .ok (.putfield 31, 3) := by decide +kernel
theorem d5_94 : decode K5.bytes 94 = .ok (.iinc 5 1, 3) := by decide +kernel
theorem d5_97 : decode K5.bytes 97 = .ok (.goto (-84), 3) := by decide +kernel
theorem d5_100 : decode K5.bytes 100 = .ok (.iload 4, 2) := by decide +kernel
theorem d5_102 : decode K5.bytes 102 = .ok (.istore 5, 2) := by decide +kernel
theorem d5_104 : decode K5.bytes 104 = .ok (.iload 5, 2) := by decide +kernel
theorem d5_106 : decode K5.bytes 106 = .ok (.iload_n 3, 1) := by decide +kernel
theorem d5_107 : decode K5.bytes 107 = .ok (.if_icmp .ge 17, 3) := by decide +kernel
theorem d5_110 : decode K5.bytes 110 = .ok (.aload_n 0, 1) := by decide +kernel
theorem d5_111 : decode K5.bytes 111 = .ok (.aload_n 1, 1) := by decide +kernel
theorem d5_112 : decode K5.bytes 112 = .ok (.iload 5, 2) := by decide +kernel
theorem d5_114 : decode K5.bytes 114 = .ok (.caload, 1) := by decide +kernel
theorem d5_115 : decode K5.bytes 115 = .ok (.invokevirtual 53, 3) := by decide +kernel
theorem d5_118 : decode K5.bytes 118 = .ok (.iinc 5 1, 3) := by decide +kernel
theorem d5_121 : decode K5.bytes 121 = .ok (.goto (-17), 3) := by decide +kernel
theorem d5_124 : decode K5.bytes 124 = .ok (.return_, 1) := by decide +kernel
theorem d6_0 : decode K6.bytes 0 = .ok (.aload_n 0, 1) := by decide +kernel
theorem d6_1 : decode K6.bytes 1 = .ok (.aload_n 0, 1) := by decide +kernel
theorem d6_2 : decode K6.bytes 2 = .ok (.getfield 28, 3) := by decide +kernel
theorem d6_5 : decode K6.bytes 5 = .ok (.iconst 1, 1) := by decide +kernel
theorem d6_6 : decode K6.bytes 6 = .ok (.iadd, 1) := by decide +kernel
theorem d6_7 : decode K6.bytes 7 = .ok (.bipush 16, 2) := by decide +kernel
theorem d6_9 : decode K6.bytes 9 = .ok (.irem, 1) := by decide +kernel
theorem d6_10 : decode K6.bytes 10 = .ok (.putfield 28, 3) := by decide +kernel
theorem d6_13 : decode K6.bytes 13 = .ok (.aload_n 0, 1) := by decide +kernel
theorem d6_14 : decode K6.bytes 14 = .ok (.getfield 9, 3) := by decide +kernel
theorem d6_17 : decode K6.bytes 17 = .ok (.aload_n 0, 1) := by decide +kernel
theorem d6_18 : decode K6.bytes 18 = .ok (.getfield 28, 3) := by decide +kernel
theorem d6_21 : decode K6.bytes 21 = .ok (.aload_n 0, 1) := by decide +kernel
theorem d6_22 : decode K6.bytes 22 = .ok (.getfield 20, 3) := by decide +kernel
theorem d6_25 : decode K6.bytes 25 = .ok (.iastore, 1) := by decide +kernel
theorem d6_26 : decode K6.bytes 26 = .ok (.aload_n 0, 1) := by decide +kernel
theorem d6_27 : decode K6.bytes 27 = .ok (.getfield 13, 3) := by decide +kernel
theorem d6_30 : decode K6.bytes 30 = .ok (.aload_n 0, 1) := by decide +kernel
theorem d6_31 : decode K6.bytes 31 = .ok (.getfield 28, 3) := by decide +kernel
theorem d6_34 : decode K6.bytes 34 = .ok (.aload_n 0, 1) := by decide +kernel
theorem d6_35 : decode K6.bytes 35 = .ok (.getfield 31, 3) := by decide +kernel
theorem d6_38 : decode K6.bytes 38 = .ok (.iastore, 1) := by decide +kernel
theorem d6_39 : decode K6.bytes 39 = .ok (.aload_n 0, 1) := by decide +kernel
theorem d6_40 : decode K6.bytes 40 = .ok (.getfield 16, 3) := by decide +kernel
theorem d6_43 : decode K6.bytes 43 = .ok (.aload_n 0, 1) := by decide +kernel
theorem d6_44 : decode K6.bytes 44 = .ok (.getfield 28, 3) := by decide +kernel
theorem d6_47 : decode K6.bytes 47 = .ok (.aload_n 0, 1) := by decide +kernel
theorem d6_48 : decode K6.bytes 48 = .ok (.getfield 24, 3) := by decide +kernel
theorem d6_51 : decode K6.bytes 51 = .ok (.bastore, 1) := by decide +kernel
theorem d6_52 : decode K6.bytes 52 = .ok (.aload_n 0, 1) := by decide +kernel
theorem d6_53 : decode K6.bytes 53 = .ok (.aload_n 0, 1) := by decide +kernel
theorem d6_54 : decode K6.bytes 54 = .ok (.getfield 34, 3) := by decide +kernel
theorem d6_57 : decode K6.bytes 57 = .ok (.iconst 1, 1) := by decide +kernel
theorem d6_58 : decode K6.bytes 58 = .ok (.iadd, 1) := by decide +kernel
theorem d6_59 : decode K6.bytes 59 = .ok (.bipush 16, 2) := by decide +kernel
theorem d6_61 : decode K6.bytes 61 = .ok (.invokestatic 37, 3) := by decide +kernel
theorem d6_64 : decode K6.bytes 64 = .ok (.putfield 34, 3) := by decide +kernel
theorem d6_67 : decode K6.bytes 67 = .ok (.iload_n 1, 1) := by decide +kernel
theorem d6_68 : decode K6.bytes 68 = .ok (.bipush 10, 2) := by decide +kernel
theorem d6_70 : decode K6.bytes 70 = .ok (.if_icmp .ne 15, 3) := by decide +kernel
theorem d6_73 : decode K6.bytes 73 = .ok (.aload_n 0, 1) := by decide +kernel
theorem d6_74 : decode K6.bytes 74 = .ok (.getfield 24, 3) := by decide +kernel
theorem d6_77 : decode K6.bytes 77 = .ok (.iconst 2, 1) := by decide +kernel
theorem d6_78 : decode K6.bytes 78 = .ok (.if_icmp .ne 7, 3) := by decide +kernel
theorem d6_81 : decode K6.bytes 81 = .ok (.iconst 1, 1) := by decide +kernel
theorem d6_82 : decode K6.bytes 82 = .ok (.goto 4, 3) := by decide +kernel
theorem d6_85 : decode K6.bytes 85 = .ok (.iconst 0, 1) := by decide +kernel
theorem d6_86 : decode K6.bytes 86 = .ok (.istore_n 2, 1) := by decide +kernel
theorem d6_87 : decode K6.bytes 87 = .ok (.iload_n 1, 1) := by decide +kernel
theorem d6_88 : decode K6.bytes 88 = .ok (.ldc 45, 2) := by decide +kernel
theorem d6_90 : decode K6.bytes 90 = .ok (.if_icmp .gt 15, 3) := by decide +kernel
theorem d6_93 : decode K6.bytes 93 = .ok (.iload_n 1, 1) := by decide +kernel
theorem d6_94 : decode K6.bytes 94 = .ok (.i2c, 1) := by decide +kernel
theorem d6_95 : decode K6.bytes 95 = .ok (.invokestatic 46, 3) := by decide +kernel
theorem d6_98 : decode K6.bytes 98 = .ok (.ifCond .eq 7, 3) := by decide +kernel
theorem d6_101 : decode K6.bytes 101 = .ok (.iconst 1, 1) := by decide +kernel
theorem d6_102 : decode K6.bytes 102 = .ok (.goto 4, 3) := by decide +kernel
theorem d6_105 : decode K6.bytes 105 = .ok (.iconst 0, 1) := by decide +kernel
theorem d6_106 : decode K6.bytes 106 = .ok (.istore_n 3, 1) := by decide +kernel
theorem d6_107 : decode K6.bytes 107 = .ok (.iload_n 2, 1) := by decide +kernel
theorem d6_108 : decode K6.bytes 108 = .ok (.ifCond .eq 11, 3) := by decide +kernel
theorem d6_111 : decode K6.bytes 111 = .ok (.aload_n 0, 1) := by decide +kernel
theorem d6_112 : decode K6.bytes 112 = .ok (.iconst 1, 1) := by decide +kernel
theorem d6_113 : decode K6.bytes 113 = .ok (.putfield 24, 3) := by decide +kernel
theorem d6_116 : decode K6.bytes 116 = .ok (.goto 80, 3) := by decide +kernel
theorem d6_119 : decode K6.bytes 119 = .ok (.iload_n 3, 1) := by decide +kernel
theorem d6_120 : decode K6.bytes 120 = .ok (.ifCond .ne 76, 3) := by decide +kernel
theorem d6_123 : decode K6.bytes 123 = .ok (.aload_n 0, 1) := by decide +kernel
theorem d6_124 : decode K6.bytes 124 = .ok (.getfield 24, 3) := by decide +kernel
theorem d6_127 : decode K6.bytes 127 = .ok (.ifCond .eq 18, 3) := by decide +kernel
theorem d6_130 : decode K6.bytes 130 = .ok (.aload_n 0, 1) := by decide +kernel
theorem d6_131 : decode K6.bytes 131 = .ok (.dup, 1) := by decide +kernel
theorem d6_132 : decode K6.bytes 132 = .ok (.getfield 20, 3) := by decide +kernel
theorem d6_135 : decode K6.bytes 135 = .ok (.iconst 1, 1) := by decide +kernel
theorem d6_136 : decode K6.bytes 136 = .ok (.iadd, 1) := by decide +kernel
theorem d6_137 : decode K6.bytes 137 = .ok (.putfield 20, 3) := by decide +kernel
theorem d6_140 : decode K6.bytes 140 = .ok (.aload_n 0, 1) := by decide +kernel
theorem d6_141 : decode K6.bytes 141 = .ok (.iconst 0, 1) := by decide +kernel
theorem d6_142 : decode K6.bytes 142 = .ok (.putfield 31, 3) := by decide +kernel
theorem d6_145 : decode K6.bytes 145 = .ok (.aload_n 0, 1) := by decide +kernel
theorem d6_146 : decode K6.bytes 146 = .ok (.dup, 1) := by decide +kernel
theorem d6_147 : decode K6.bytes 147 = .ok (.getfield 31, 3) := by decide +kernel
theorem d6_150 : decode K6.bytes 150 = .ok (.iconst 1, 1) := by decide +kernel
theorem d6_151 : decode K6.bytes 151 = .ok (.iadd, 1) := by decide +kernel
theorem d6_152 : decode K6.bytes 152 = .ok (.putfield 31, 3) := by decide +kernel
theorem d6_155 : decode K6.bytes 155 = .ok (.aload_n 0, 1) := by decide +kernel
theorem d6_156 : decode K6.bytes 156 = .ok (.iload_n 1, 1) := by decide +kernel
theorem d6_157 : decode K6.bytes 157 = .ok (.lookupswitch 35 #[(10, 27), (13, 31)], 27) := by decide +kernel
theorem d6_184 : decode K6.bytes 184 = .ok (.iconst 1, 1) := by decide +kernel
theorem d6_185 : decode K6.bytes 185 = .ok (.goto 8, 3) := by decide +kernel
theorem d6_188 : decode K6.bytes 188 = .ok (.iconst 2, 1) := by decide +kernel
theorem d6_189 : decode K6.bytes 189 = .ok (.goto 4, 3) := by decide +kernel
theorem d6_192 : decode K6.bytes 192 = .ok (.iconst 0, 1) := by decide +kernel
theorem d6_193 : decode K6.bytes 193 = .ok (.putfield 24, 3) := by decide +kernel
theorem d6_196 : decode K6.bytes 196 = .ok (.return_, 1) := by decide +kernel
theorem d7_0 : decode K7.bytes 0 = .ok (.iload_n 0, 1) := by decide +kernel
theorem d7_1 : decode K7.bytes 1 = .ok (.iload_n 1, 1) := by decide +kernel
theorem d7_2 : decode K7.bytes 2 = .ok (.if_icmp .gt 7, 3) := by decide +kernel
theorem d7_5 : decode K7.bytes 5 = .ok (.iload_n 0, 1) := by decide +kernel
theorem d7_6 : decode K7.bytes 6 = .ok (.goto 4, 3) := by decide +kernel
theorem d7_9 : decode K7.bytes 9 = .ok (.iload_n 1, 1) := by decide +kernel
theorem d7_10 : decode K7.bytes 10 = .ok (.ireturn, 1) := by decide +kernel
theorem d8_0 : decode K8.bytes 0 = .ok (.iload_n 0, 1) := by decide +kernel
theorem d8_1 : decode K8.bytes 1 = .ok (.ldc 76, 2) := by decide +kernel
theorem d8_3 : decode K8.bytes 3 = .ok (.if_icmp .lt 13, 3) := by decide +kernel
theorem d8_6 : decode K8.bytes 6 = .ok (.iload_n 0, 1) := by decide +kernel
theorem d8_7 : decode K8.bytes 7 = .ok (.ldc 77, 2) := by decide +kernel
theorem d8_9 : decode K8.bytes 9 = .ok (.if_icmp .ge 7, 3) := by decide +kernel
theorem d8_12 : decode K8.bytes 12 = .ok (.iconst 1, 1) := by decide +kernel
theorem d8_13 : decode K8.bytes 13 = .ok (.goto 4, 3) := by decide +kernel
theorem d8_16 : decode K8.bytes 16 = .ok (.iconst 0, 1) := by decide +kernel
theorem d8_17 : decode K8.bytes 17 = .ok (.ireturn, 1) := by decide +kernel
theorem d9_0 : decode K9.bytes 0 = .ok (.aload_n 0, 1) := by decide +kernel
theorem d9_1 : decode K9.bytes 1 = .ok (.getfield 34, 3) := by decide +kernel
theorem d9_4 : decode K9.bytes 4 = .ok (.ifCond .ne 4, 3) := by decide +kernel
theorem d9_7 : decode K9.bytes 7 = .ok (.return_, 1) := by decide +kernel
theorem d9_8 : decode K9.bytes 8 = .ok (.aload_n 0, 1) := by decide +kernel
theorem d9_9 : decode K9.bytes 9 = .ok (.aload_n 0, 1) := by decide +kernel
theorem d9_10 : decode K9.bytes 10 = .ok (.getfield 9, 3) := by decide +kernel
theorem d9_13 : decode K9.bytes 13 = .ok (.aload_n 0, 1) := by decide +kernel
theorem d9_14 : decode K9.bytes 14 = .ok (.getfield 28, 3) := by decide +kernel
theorem d9_17 : decode K9.bytes 17 = .ok (.iaload, 1) := by decide +kernel
theorem d9_18 : decode K9.bytes 18 = .ok (.putfield 20, 3) := by decide +kernel
theorem d9_21 : decode K9.bytes 21 = .ok (.aload_n 0, 1) := by decide +kernel
theorem d9_22 : decode K9.bytes 22 = .ok (.aload_n 0, 1) := by decide +kernel
theorem d9_23 : decode K9.bytes 23 = .ok (.getfield 13, 3) := by decide +kernel
theorem d9_26 : decode K9.bytes 26 = .ok (.aload_n 0, 1) := by decide +kernel
theorem d9_27 : decode K9.bytes 27 = .ok (.getfield 28, 3) := by decide +kernel
theorem d9_30 : decode K9.bytes 30 = .ok (.iaload, 1) := by decide +kernel
theorem d9_31 : decode K9.bytes 31 = .ok (.putfield 31, 3) := by decide +kernel
theorem d9_34 : decode K9.bytes 34 = .ok (.aload_n 0, 1) := by decide +kernel
theorem d9_35 : decode K9.bytes 35 = .ok (.aload_n 0, 1) := by decide +kernel
theorem d9_36 : decode K9.bytes 36 = .ok (.getfield 16, 3) := by decide +kernel
theorem d9_39 : decode K9.bytes 39 = .ok (.aload_n 0, 1) := by decide +kernel
theorem d9_40 : decode K9.bytes 40 = .ok (.getfield 28, 3) := by decide +kernel
theorem d9_43 : decode K9.bytes 43 = .ok (.baload, 1) := by decide +kernel
theorem d9_44 : decode K9.bytes 44 = .ok (.putfield 24, 3) := by decide +kernel
theorem d9_47 : decode K9.bytes 47 = .ok (.aload_n 0, 1) := by decide +kernel
theorem d9_48 : decode K9.bytes 48 = .ok (.aload_n 0, 1) := by decide +kernel
theorem d9_49 : decode K9.bytes 49 = .ok (.getfield 28, 3) := by decide +kernel
theorem d9_52 : decode K9.bytes 52 = .ok (.bipush 16, 2) := by decide +kernel
theorem d9_54 : decode K9.bytes 54 = .ok (.iadd, 1) := by decide +kernel
theorem d9_55 : decode K9.bytes 55 = .ok (.iconst 1, 1) := by decide +kernel
theorem d9_56 : decode K9.bytes 56 = .ok (.isub, 1) := by decide +kernel
theorem d9_57 : decode K9.bytes 57 = .ok (.bipush 16, 2) := by decide +kernel
theorem d9_59 : decode K9.bytes 59 = .ok (.irem, 1) := by decide +kernel
theorem d9_60 : decode K9.bytes 60 = .ok (.putfield 28, 3) := by decide +kernel
theorem d9_63 : decode K9.bytes 63 = .ok (.aload_n 0, 1) := by decide +kernel
theorem d9_64 : decode K9.bytes 64 = .ok (.dup, 1) := by decide +kernel
theorem d9_65 : decode K9.bytes 65 = .ok (.getfield 34, 3) := by decide +kernel
theorem d9_68 : decode K9.bytes 68 = .ok (.iconst 1, 1) := by decide +kernel
theorem d9_69 : decode K9.bytes 69 = .ok (.isub, 1) := by decide +kernel
theorem d9_70 : decode K9.bytes 70 = .ok (.putfield 34, 3) := by decide +kernel
theorem d9_73 : decode K9.bytes 73 = .ok (.return_, 1) := by decide +kernel
theorem d10_0 : decode K10.bytes 0 = .ok (.aload_n 0, 1) := by decide +kernel
theorem d10_1 : decode K10.bytes 1 = .ok (.getfield 20, 3) := by decide +kernel
theorem d10_4 : decode K10.bytes 4 = .ok (.ireturn, 1) := by decide +kernel
theorem d11_0 : decode K11.bytes 0 = .ok (.aload_n 0, 1) := by decide +kernel
theorem d11_1 : decode K11.bytes 1 = .ok (.getfield 31, 3) := by decide +kernel
theorem d11_4 : decode K11.bytes 4 = .ok (.ireturn, 1) := by decide +kernel
theorem d12_0 : decode K12.bytes 0 = .ok (.aload_n 0, 1) := by decide +kernel
theorem d12_1 : decode K12.bytes 1 = .ok (.getfield 24, 3) := by decide +kernel
theorem d12_4 : decode K12.bytes 4 = .ok (.ifCond .ne 10, 3) := by decide +kernel
theorem d12_7 : decode K12.bytes 7 = .ok (.aload_n 0, 1) := by decide +kernel
theorem d12_8 : decode K12.bytes 8 = .ok (.getfield 20, 3) := by decide +kernel
theorem d12_11 : decode K12.bytes 11 = .ok (.goto 9, 3) := by decide +kernel
theorem d12_14 : decode K12.bytes 14 = .ok (.aload_n 0, 1) := by decide +kernel
theorem d12_15 : decode K12.bytes 15 = .ok (.getfield 20, 3) := by decide +kernel
theorem d12_18 : decode K12.bytes 18 = .ok (.iconst 1, 1) := by decide +kernel
theorem d12_19 : decode K12.bytes 19 = .ok (.iadd, 1) := by decide +kernel
theorem d12_20 : decode K12.bytes 20 = .ok (.ireturn, 1) := by decide +kernel
abbrev Tri := Int32 × Int32 × Int32
abbrev own_i2c (x : Int32) : Int32 := x.toUInt32.toUInt16.toUInt32.toInt32
def own_max (x y : Int32) : Int32 := if x < y then y else x
def own_min (x y : Int32) : Int32 := if y < x then y else x
def own_lowS (ch : Int32) : Int32 := if ch < 56320 then 0 else if ch < 57344 then 1 else 0
def own_step (t : Tri) (ch : Int32) : Tri := if ch = 10 ∧ t.2.2 = 2 then (t.1, t.2.1, 1) else if 65535 < ch ∨ own_lowS (own_i2c ch) = 0 then ((if t.2.2 = 0 then t.1 else t.1 + 1), (if t.2.2 = 0 then t.2.1 else 0) + 1, (if ch = 10 then 1 else if ch = 13 then 2 else 0)) else t
def own_upd (f : Nat → Int32) (i : Nat) (x : Int32) : Nat → Int32 := fun j => if j = i then x else f j
def own_okB (x : Int32) : Prop := nar .byte x = x
abbrev own_ix (x : Int32) : Nat := x.toInt.toNat
def own_nl (t : Tri) : Int32 := if t.2.2 = 0 then t.1 else t.1 + 1
def own_sbN (kp nw : Int32) : Int32 := if kp = 0 then nw else (nw + 16 - 1) % 16
def own_sbK (kp : Int32) : Int32 := if kp = 0 then kp else kp - 1
def own_sbT (kp nw : Int32) (t : Tri) (fl fc fb : Nat → Int32) : Tri := if kp = 0 then t else (fl (own_ix nw), fc (own_ix nw), fb (own_ix nw))
abbrev own_Pos (Z : State) (h : Heap) (a la ca ba : Addr) (nw kp : Int32) (t : Tri) (fl fc fb : Nat → Int32) : Prop :=
  Exa Z h a "com/example/hornstone/hornstone/read/Position" ∧ Fld Z h a "com/example/hornstone/hornstone/read/Position" "lines" "[I" (.ref la) ∧ Fld Z h a "com/example/hornstone/hornstone/read/Position" "columns" "[I" (.ref ca) ∧ Fld Z h a "com/example/hornstone/hornstone/read/Position" "breaks" "[B" (.ref ba) ∧ Fld Z h a "com/example/hornstone/hornstone/read/Position" "newest" "I" (.int nw) ∧ Fld Z h a "com/example/hornstone/hornstone/read/Position" "kept" "I" (.int kp) ∧ Fld Z h a "com/example/hornstone/hornstone/read/Position" "line" "I" (.int t.1) ∧ Fld Z h a "com/example/hornstone/hornstone/read/Position" "column" "I" (.int t.2.1) ∧ Fld Z h a "com/example/hornstone/hornstone/read/Position" "lastBreak" "B" (.int t.2.2) ∧ Af Z h la .int 16 (fun i => .int (fl i)) ∧ Af Z h ca .int 16 (fun i => .int (fc i)) ∧ Af Z h ba .byte 16 (fun i => .int (fb i))
abbrev own_Ne (n0 : Nat) (a la ca ba : Addr) : Prop := a ≠ la ∧ a ≠ ca ∧ a ≠ ba ∧ la ≠ ca ∧ la ≠ ba ∧ ca ≠ ba ∧ n0 ≤ a ∧ n0 ≤ la ∧ n0 ≤ ca ∧ n0 ≤ ba
theorem own_Pos_keep {Z : State} {h h' : Heap} {a la ca ba : Addr} {nw kp : Int32} {t : Tri} {fl fc fb : Nat → Int32} {ws : List Addr} (Q : own_Pos Z h a la ca ba nw kp t fl fc fb) (K : Keep h h' ws) (q : a ∉ ws ∧ la ∉ ws ∧ ca ∉ ws ∧ ba ∉ ws) : own_Pos Z h' a la ca ba nw kp t fl fc fb := by
  obtain ⟨e, f1, f2, f3, f4, f5, f6, f7, f8, a1, a2, a3⟩ := Q
  exact ⟨e.keep K, f1.keep K q.1, f2.keep K q.1, f3.keep K q.1, f4.keep K q.1, f5.keep K q.1, f6.keep K q.1, f7.keep K q.1, f8.keep K q.1, a1.keep K q.2.1, a2.keep K q.2.2.1, a3.keep K q.2.2.2⟩
theorem own_Pos_ext {Z : State} {h h' : Heap} {a la ca ba : Addr} {nw kp : Int32} {t : Tri} {fl fc fb : Nat → Int32} (Q : own_Pos Z h a la ca ba nw kp t fl fc fb) (K : Ext h h') : own_Pos Z h' a la ca ba nw kp t fl fc fb := by
  obtain ⟨e, f1, f2, f3, f4, f5, f6, f7, f8, a1, a2, a3⟩ := Q
  exact ⟨e.ext K, f1.ext K, f2.ext K, f3.ext K, f4.ext K, f5.ext K, f6.ext K, f7.ext K, f8.ext K, a1.ext K, a2.ext K, a3.ext K⟩
theorem own_Pos_lt {Z : State} {h : Heap} {a la ca ba : Addr} {nw kp : Int32} {t : Tri} {fl fc fb : Nat → Int32} (Q : own_Pos Z h a la ca ba nw kp t fl fc fb) : a < h.size ∧ la < h.size ∧ ca < h.size ∧ ba < h.size :=
  ⟨Q.1.lt, Q.2.2.2.2.2.2.2.2.2.1.lt, Q.2.2.2.2.2.2.2.2.2.2.1.lt, Q.2.2.2.2.2.2.2.2.2.2.2.lt⟩
theorem own_nwi (nw : Int32) (h : 0 ≤ nw.toInt ∧ nw.toInt < 16) : ((nw + 1) % 16).toInt = ((own_ix ((nw + 1) % 16) : Nat) : Int) ∧ own_ix ((nw + 1) % 16) < 16 ∧ ((nw + 1) % 16).toInt = (nw.toInt + 1) % 16 := by
  have h1 := c_iadd nw 1
  have h2 := rng32 (nw + 1)
  simp only [Int32.reduceToInt] at h1
  have h3 := (c_irem (nw + 1) 16 16 rfl).1 (by omega)
  unfold own_ix
  omega
theorem own_nwj (nw : Int32) (h : 0 ≤ nw.toInt ∧ nw.toInt < 16) : nw.toInt = ((own_ix nw : Nat) : Int) ∧ own_ix nw < 16 := by unfold own_ix; omega
theorem own_low13 : own_lowS (own_i2c 13) = 0 := by decide
theorem own_low10 : own_lowS (own_i2c 10) = 0 := by decide
theorem own_i2ci (x : Int32) : own_i2c (own_i2c x) = own_i2c x := by
  apply Int32.toInt_inj.mp
  have h1 := c_i2c x
  have h2 := c_i2c (own_i2c x)
  unfold own_i2c at *
  omega
theorem own_narC (x : Int32) : narrow .char (.int (own_i2c x)) = .int (own_i2c x) := congrArg Value.int (own_i2ci x)
theorem own_B1 {x : Int32} (h : own_okB x) : narrow .byte (.int x) = .int x := congrArg Value.int h
theorem own_B2 {x : Int32} (h : own_okB x) : fits .byte (.int x) = true := by have := fits_nar_byte x; unfold own_okB at h; rw [← h]; exact this
theorem own_sw (ch : Int32) : lookupswitch.offset (#[((10 : Int), (27 : Int)), (13, 31)]).toList 35 ch.toInt = if ch = 10 then 27 else if ch = 13 then 31 else 35 := by
  show (if (10 : Int) = ch.toInt then (27 : Int) else if (13 : Int) = ch.toInt then 31 else 35) = _
  simp only [← Int32.toInt_inj, Int32.reduceToInt, eq_comm]
set_option maxRecDepth 65536 in
set_option maxHeartbeats 4000000 in
theorem rm2 (l : Launch) (Z : State) (a0 : Array Value) (hw : Hw a0 Z) (x : Int32) (y : Int32)  (h0 : Heap) (n0 : Nat) (Z0 : n0 ≤ h0.size)  :
    Ct l Z K2 #[(.int x), (.int y)] h0 n0 (fun v h => v = some (.int (own_max x y)) ∧ h = h0) := by
  refine Ct.of (Ls := #[.val (.int x), .val (.int y)]) (Jvm.Free.JP.mathPlain rfl (by decide +kernel)) (fun m => by first | rfl | (simp [entryFrame, mkF, argsToLocals, Value.category]; done)) ?_
  intro E T W
  refine go_iloadN (pc' := 1) W d2_0 rfl rfl ?_
  refine go_iloadN (pc' := 2) W d2_1 rfl rfl ?_
  refine go_icmp_lt (pt := 9) (pf := 5) W d2_2 (by decide) rfl rfl (fun c2_1 => ?_) (fun c2_1 => ?_)
  · -- pc 2 taken
    refine go_iloadN (pc' := 10) W d2_9 rfl rfl ?_
    exact go_retI W (t := .int) rfl (by simp) rfl d2_10 (nb rfl) (nb rfl) (⟨by simp [own_max, c2_1], rfl⟩)
  · -- pc 2 not taken
    refine go_iloadN (pc' := 6) W d2_5 rfl rfl ?_
    refine go_goto (pc' := 10) W d2_6 (by decide) rfl ?_
    exact go_retI W (t := .int) rfl (by simp) rfl d2_10 (nb rfl) (nb rfl) (⟨by simp [own_max, c2_1], rfl⟩)
set_option maxRecDepth 65536 in
set_option maxHeartbeats 4000000 in
theorem rm7 (l : Launch) (Z : State) (a0 : Array Value) (hw : Hw a0 Z) (x : Int32) (y : Int32)  (h0 : Heap) (n0 : Nat) (Z0 : n0 ≤ h0.size)  :
    Ct l Z K7 #[(.int x), (.int y)] h0 n0 (fun v h => v = some (.int (own_min x y)) ∧ h = h0) := by
  refine Ct.of (Ls := #[.val (.int x), .val (.int y)]) (Jvm.Free.JP.mathPlain rfl (by decide +kernel)) (fun m => by first | rfl | (simp [entryFrame, mkF, argsToLocals, Value.category]; done)) ?_
  intro E T W
  refine go_iloadN (pc' := 1) W d7_0 rfl rfl ?_
  refine go_iloadN (pc' := 2) W d7_1 rfl rfl ?_
  refine go_icmp_gt (pt := 9) (pf := 5) W d7_2 (by decide) rfl rfl (fun c2_2 => ?_) (fun c2_2 => ?_)
  · -- pc 2 taken
    refine go_iloadN (pc' := 10) W d7_9 rfl rfl ?_
    exact go_retI W (t := .int) rfl (by simp) rfl d7_10 (nb rfl) (nb rfl) (⟨by simp [own_min, c2_2], rfl⟩)
  · -- pc 2 not taken
    refine go_iloadN (pc' := 6) W d7_5 rfl rfl ?_
    refine go_goto (pc' := 10) W d7_6 (by decide) rfl ?_
    exact go_retI W (t := .int) rfl (by simp) rfl d7_10 (nb rfl) (nb rfl) (⟨by simp [own_min, c2_2], rfl⟩)
set_option maxRecDepth 65536 in
set_option maxHeartbeats 4000000 in
theorem rm8 (l : Launch) (Z : State) (a0 : Array Value) (hw : Hw a0 Z) (ch : Int32)  (h0 : Heap) (n0 : Nat) (Z0 : n0 ≤ h0.size)  :
    Ct l Z K8 #[(.int ch)] h0 n0 (fun v h => v = some (.int (own_lowS ch)) ∧ h = h0) := by
  refine Ct.of (Ls := #[.val (.int ch)]) (plainFor_of_name (by first | decide +kernel | (simp [plainName, overriddenIn]; done))) (fun m => by first | rfl | (simp [entryFrame, mkF, argsToLocals, Value.category]; done)) ?_
  intro E T W
  refine go_iloadN (pc' := 1) W d8_0 rfl rfl ?_
  refine go_ldcInt (pc' := 3) W (w57 hw) d8_1 rfl ?_
  refine go_icmp_lt (pt := 16) (pf := 6) W d8_3 (by decide) rfl rfl (fun c3_3 => ?_) (fun c3_3 => ?_)
  · -- pc 3 taken
    refine go_iconst (pc' := 17) (z := 0) W d8_16 rfl rfl ?_
    exact go_retI W (t := .boolean) rfl (by simp) rfl d8_17 (nb rfl) (nb rfl) (⟨by simp [own_lowS, c3_3], rfl⟩)
  · -- pc 3 not taken
    refine go_iloadN (pc' := 7) W d8_6 rfl rfl ?_
    refine go_ldcInt (pc' := 9) W (w81 hw) d8_7 rfl ?_
    refine go_icmp_ge (pt := 16) (pf := 12) W d8_9 (by decide) rfl rfl (fun c9_4 => ?_) (fun c9_4 => ?_)
    · -- pc 9 taken
      refine go_iconst (pc' := 17) (z := 0) W d8_16 rfl rfl ?_
      exact go_retI W (t := .boolean) rfl (by simp) rfl d8_17 (nb rfl) (nb rfl) (⟨by simp [own_lowS, c3_3, c9_4], rfl⟩)
    · -- pc 9 not taken
      refine go_iconst (pc' := 13) (z := 1) W d8_12 rfl rfl ?_
      refine go_goto (pc' := 17) W d8_13 (by decide) rfl ?_
      exact go_retI W (t := .boolean) rfl (by simp) rfl d8_17 (nb rfl) (nb rfl) (⟨by simp [own_lowS, c3_3, c9_4], rfl⟩)
set_option maxRecDepth 65536 in
set_option maxHeartbeats 4000000 in
theorem rm1 (l : Launch) (Z : State) (a0 : Array Value) (hw : Hw a0 Z) (q0 : Int64) (i0 : Int32) (q1 : Int64) (i1 : Int32)  (h0 : Heap) (n0 : Nat) (Z0 : n0 ≤ h0.size)  :
    Ct l Z K1 #[(.long q0), (.int i0), (.long q1), (.int i1)] h0 n0 (fun v h => Exists fun r : Int32 => v = some (.int r) ∧ h = h0) := by
  refine Ct.of (Ls := #[.val (.long q0), .second, .val (.int i0), .val (.long q1), .second, .val (.int i1), .unset, .unset]) (plainFor_of_name (by first | decide +kernel | (simp [plainName, overriddenIn]; done))) (fun m => by first | rfl | (simp [entryFrame, mkF, argsToLocals, Value.category]; done)) ?_
  intro E T W
  refine go_lloadN (pc' := 1) W d1_0 rfl rfl ?_
  refine go_iconst (pc' := 2) (z := 3) W d1_1 rfl rfl ?_
  refine go_iloadN (pc' := 3) W d1_2 rfl rfl ?_
  refine go_imul (pc' := 4) W d1_3 rfl ?_
  refine go_lushr (pc' := 5) W d1_4 rfl ?_
  refine go_l2i (pc' := 6) W d1_5 rfl ?_
  refine go_bipush (pc' := 8) (z := 7) W d1_6 (by decide) rfl ?_
  refine go_iand (pc' := 9) W d1_8 rfl ?_
  refine go_istore (pc' := 11) (l' := #[.val (.long q0), .second, .val (.int i0), .val (.long q1), .second, .val (.int i1), .val (.int ((((q0.toUInt64 >>> (((3 : Int32) * i0) &&& 0x3f).toInt64.toUInt64).toInt64).toInt32) &&& (7 : Int32))), .unset]) W d1_9 rfl rfl ?_
  refine go_lloadN (pc' := 12) W d1_11 rfl rfl ?_
  refine go_iconst (pc' := 13) (z := 5) W d1_12 rfl rfl ?_
  refine go_iload (pc' := 15) W d1_13 rfl rfl ?_
  refine go_imul (pc' := 16) W d1_15 rfl ?_
  refine go_lushr (pc' := 17) W d1_16 rfl ?_
  refine go_l2i (pc' := 18) W d1_17 rfl ?_
  refine go_ldcInt (pc' := 20) W (w5 hw) d1_18 rfl ?_
  refine go_iand (pc' := 21) W d1_20 rfl ?_
  refine go_istore (pc' := 23) (l' := #[.val (.long q0), .second, .val (.int i0), .val (.long q1), .second, .val (.int i1), .val (.int ((((q0.toUInt64 >>> (((3 : Int32) * i0) &&& 0x3f).toInt64.toUInt64).toInt64).toInt32) &&& (7 : Int32))), .val (.int ((((q1.toUInt64 >>> (((5 : Int32) * i1) &&& 0x3f).toInt64.toUInt64).toInt64).toInt32) &&& (65535 : Int32)))]) W d1_21 rfl rfl ?_
  refine go_iload (pc' := 25) W d1_23 rfl rfl ?_
  refine go_if_eq (pt := 34) (pf := 28) W d1_25 (by decide) rfl rfl (fun c25_5 => ?_) (fun c25_5 => ?_)
  · -- pc 25 taken
    refine go_bipush (pc' := 36) (z := 10) W d1_34 (by decide) rfl ?_
    exact go_retI W (t := .char) rfl (by simp) rfl d1_36 (nb rfl) (nb rfl) (⟨_, rfl, rfl⟩)
  · -- pc 25 not taken
    refine go_iload (pc' := 30) W d1_28 rfl rfl ?_
    refine go_iconst (pc' := 31) (z := 1) W d1_30 rfl rfl ?_
    refine go_icmp_ne (pt := 37) (pf := 34) W d1_31 (by decide) rfl rfl (fun c31_6 => ?_) (fun c31_6 => ?_)
    · -- pc 31 taken
      refine go_iload (pc' := 39) W d1_37 rfl rfl ?_
      refine go_iconst (pc' := 40) (z := 2) W d1_39 rfl rfl ?_
      refine go_icmp_eq (pt := 49) (pf := 43) W d1_40 (by decide) rfl rfl (fun c40_7 => ?_) (fun c40_7 => ?_)
      · -- pc 40 taken
        refine go_bipush (pc' := 51) (z := 13) W d1_49 (by decide) rfl ?_
        exact go_retI W (t := .char) rfl (by simp) rfl d1_51 (nb rfl) (nb rfl) (⟨_, rfl, rfl⟩)
      · -- pc 40 not taken
        refine go_iload (pc' := 45) W d1_43 rfl rfl ?_
        refine go_iconst (pc' := 46) (z := 3) W d1_45 rfl rfl ?_
        refine go_icmp_ne (pt := 52) (pf := 49) W d1_46 (by decide) rfl rfl (fun c46_8 => ?_) (fun c46_8 => ?_)
        · -- pc 46 taken
          refine go_iload (pc' := 54) W d1_52 rfl rfl ?_
          refine go_iconst (pc' := 55) (z := 4) W d1_54 rfl rfl ?_
          refine go_icmp_ne (pt := 69) (pf := 58) W d1_55 (by decide) rfl rfl (fun c55_9 => ?_) (fun c55_9 => ?_)
          · -- pc 55 taken
            refine go_iload (pc' := 71) W d1_69 rfl rfl ?_
            refine go_iconst (pc' := 72) (z := 5) W d1_71 rfl rfl ?_
            refine go_icmp_ne (pt := 86) (pf := 75) W d1_72 (by decide) rfl rfl (fun c72_10 => ?_) (fun c72_10 => ?_)
            · -- pc 72 taken
              refine go_iload (pc' := 88) W d1_86 rfl rfl ?_
              refine go_i2c (pc' := 89) W d1_88 rfl ?_
              exact go_retI W (t := .char) rfl (by simp) (own_narC _) d1_89 (nb rfl) (nb rfl) (⟨_, rfl, rfl⟩)
            · -- pc 72 not taken
              refine go_ldcInt (pc' := 77) W (w79 hw) d1_75 rfl ?_
              refine go_iload (pc' := 79) W d1_77 rfl rfl ?_
              refine go_sipush (pc' := 82) (z := 1023) W d1_79 (by decide) rfl ?_
              refine go_iand (pc' := 83) W d1_82 rfl ?_
              refine go_iadd (pc' := 84) W d1_83 rfl ?_
              refine go_i2c (pc' := 85) W d1_84 rfl ?_
              exact go_retI W (t := .char) rfl (by simp) (own_narC _) d1_85 (nb rfl) (nb rfl) (⟨_, rfl, rfl⟩)
          · -- pc 55 not taken
            refine go_ldcInt (pc' := 60) W (w80 hw) d1_58 rfl ?_
            refine go_iload (pc' := 62) W d1_60 rfl rfl ?_
            refine go_sipush (pc' := 65) (z := 1023) W d1_62 (by decide) rfl ?_
            refine go_iand (pc' := 66) W d1_65 rfl ?_
            refine go_iadd (pc' := 67) W d1_66 rfl ?_
            refine go_i2c (pc' := 68) W d1_67 rfl ?_
            exact go_retI W (t := .char) rfl (by simp) (own_narC _) d1_68 (nb rfl) (nb rfl) (⟨_, rfl, rfl⟩)
        · -- pc 46 not taken
          refine go_bipush (pc' := 51) (z := 13) W d1_49 (by decide) rfl ?_
          exact go_retI W (t := .char) rfl (by simp) rfl d1_51 (nb rfl) (nb rfl) (⟨_, rfl, rfl⟩)
    · -- pc 31 not taken
      refine go_bipush (pc' := 36) (z := 10) W d1_34 (by decide) rfl ?_
      exact go_retI W (t := .char) rfl (by simp) rfl d1_36 (nb rfl) (nb rfl) (⟨_, rfl, rfl⟩)
set_option maxRecDepth 65536 in
set_option maxHeartbeats 4000000 in
theorem rm10 (l : Launch) (Z : State) (a0 : Array Value) (hw : Hw a0 Z) (a : Addr) (la ca ba : Addr) (nw kp : Int32) (t : Tri) (fl fc fb : Nat → Int32) (h0 : Heap) (n0 : Nat) (Z0 : n0 ≤ h0.size) (P0 : own_Pos Z h0 a la ca ba nw kp t fl fc fb) :
    Ct l Z K10 #[(.ref a)] h0 n0 (fun v h => v = some (.int t.1) ∧ h = h0) := by
  refine Ct.of (Ls := #[.val (.ref a)]) (plainFor_of_name (by first | decide +kernel | (simp [plainName, overriddenIn]; done))) (fun m => by first | rfl | (simp [entryFrame, mkF, argsToLocals, Value.category]; done)) ?_
  intro E T W
  obtain ⟨Ea, F0, F1, F2, F3, F4, F5, F6, F7, A0, A1, A2⟩ := P0
  refine go_aloadN (pc' := 1) W d10_0 rfl rfl rfl ?_
  refine go_getF (pc' := 4) W (host := "") (Or.inl (w28 hw)) Via.refl F5 d10_1 rfl ?_
  intro T11 W11
  exact go_retI W11 (t := .int) rfl (by simp) rfl d10_4 (nb rfl) (nb rfl) (⟨rfl, rfl⟩)
set_option maxRecDepth 65536 in
set_option maxHeartbeats 4000000 in
theorem rm11 (l : Launch) (Z : State) (a0 : Array Value) (hw : Hw a0 Z) (a : Addr) (la ca ba : Addr) (nw kp : Int32) (t : Tri) (fl fc fb : Nat → Int32) (h0 : Heap) (n0 : Nat) (Z0 : n0 ≤ h0.size) (P0 : own_Pos Z h0 a la ca ba nw kp t fl fc fb) :
    Ct l Z K11 #[(.ref a)] h0 n0 (fun v h => v = some (.int t.2.1) ∧ h = h0) := by
  refine Ct.of (Ls := #[.val (.ref a)]) (plainFor_of_name (by first | decide +kernel | (simp [plainName, overriddenIn]; done))) (fun m => by first | rfl | (simp [entryFrame, mkF, argsToLocals, Value.category]; done)) ?_
  intro E T W
  obtain ⟨Ea, F0, F1, F2, F3, F4, F5, F6, F7, A0, A1, A2⟩ := P0
  refine go_aloadN (pc' := 1) W d11_0 rfl rfl rfl ?_
  refine go_getF (pc' := 4) W (host := "") (Or.inl (w45 hw)) Via.refl F6 d11_1 rfl ?_
  intro T12 W12
  exact go_retI W12 (t := .int) rfl (by simp) rfl d11_4 (nb rfl) (nb rfl) (⟨rfl, rfl⟩)
set_option maxRecDepth 65536 in
set_option maxHeartbeats 4000000 in
theorem rm12 (l : Launch) (Z : State) (a0 : Array Value) (hw : Hw a0 Z) (a : Addr) (la ca ba : Addr) (nw kp : Int32) (t : Tri) (fl fc fb : Nat → Int32) (h0 : Heap) (n0 : Nat) (Z0 : n0 ≤ h0.size) (P0 : own_Pos Z h0 a la ca ba nw kp t fl fc fb) :
    Ct l Z K12 #[(.ref a)] h0 n0 (fun v h => v = some (.int (own_nl t)) ∧ h = h0) := by
  refine Ct.of (Ls := #[.val (.ref a)]) (plainFor_of_name (by first | decide +kernel | (simp [plainName, overriddenIn]; done))) (fun m => by first | rfl | (simp [entryFrame, mkF, argsToLocals, Value.category]; done)) ?_
  intro E T W
  obtain ⟨Ea, F0, F1, F2, F3, F4, F5, F6, F7, A0, A1, A2⟩ := P0
  refine go_aloadN (pc' := 1) W d12_0 rfl rfl rfl ?_
  refine go_getF (pc' := 4) W (host := "") (Or.inl (w30 hw)) Via.refl F7 d12_1 rfl ?_
  intro T13 W13
  refine go_if_ne (pt := 14) (pf := 7) W13 d12_4 (by decide) rfl rfl (fun c4_14 => ?_) (fun c4_14 => ?_)
  · -- pc 4 taken
    refine go_aloadN (pc' := 15) W13 d12_14 rfl rfl rfl ?_
    refine go_getF (pc' := 18) W13 (host := "") (Or.inl (w28 hw)) Via.refl F5 d12_15 rfl ?_
    intro T15 W15
    refine go_iconst (pc' := 19) (z := 1) W15 d12_18 rfl rfl ?_
    refine go_iadd (pc' := 20) W15 d12_19 rfl ?_
    exact go_retI W15 (t := .int) rfl (by simp) rfl d12_20 (nb rfl) (nb rfl) (⟨by simp [own_nl, c4_14], rfl⟩)
  · -- pc 4 not taken
    refine go_aloadN (pc' := 8) W13 d12_7 rfl rfl rfl ?_
    refine go_getF (pc' := 11) W13 (host := "") (Or.inl (w28 hw)) Via.refl F5 d12_8 rfl ?_
    intro T16 W16
    refine go_goto (pc' := 20) W16 d12_11 (by decide) rfl ?_
    exact go_retI W16 (t := .int) rfl (by simp) rfl d12_20 (nb rfl) (nb rfl) (⟨by simp [own_nl, c4_14], rfl⟩)
set_option maxRecDepth 65536 in
set_option maxHeartbeats 4000000 in
theorem rm3 (l : Launch) (Z : State) (a0 : Array Value) (hw : Hw a0 Z) (a : Addr)  (h0 : Heap) (n0 : Nat) (Z0 : n0 ≤ h0.size) (Ea : Exa Z h0 a "com/example/hornstone/hornstone/read/Position") (F0 : Fld Z h0 a "com/example/hornstone/hornstone/read/Position" "lines" "[I" .null) (F1 : Fld Z h0 a "com/example/hornstone/hornstone/read/Position" "columns" "[I" .null) (F2 : Fld Z h0 a "com/example/hornstone/hornstone/read/Position" "breaks" "[B" .null) (F3 : Fld Z h0 a "com/example/hornstone/hornstone/read/Position" "newest" "I" (.int (0 : Int32))) (F4 : Fld Z h0 a "com/example/hornstone/hornstone/read/Position" "kept" "I" (.int (0 : Int32))) (F5 : Fld Z h0 a "com/example/hornstone/hornstone/read/Position" "line" "I" (.int (0 : Int32))) (F6 : Fld Z h0 a "com/example/hornstone/hornstone/read/Position" "column" "I" (.int (0 : Int32))) (F7 : Fld Z h0 a "com/example/hornstone/hornstone/read/Position" "lastBreak" "B" (.int (0 : Int32))) (ga : n0 ≤ a) :
    Ct l Z K3 #[(.ref a)] h0 n0 (fun v h => ∃ la ca ba : Addr, v = none ∧ own_Ne n0 a la ca ba ∧ h0.size ≤ la ∧ h0.size ≤ ca ∧ h0.size ≤ ba ∧ Keep h0 h [a] ∧ own_Pos Z h a la ca ba 0 0 (1, 0, 0) (fun _ => 0) (fun _ => 0) (fun _ => 0)) := by
  refine Ct.of (Ls := #[.val (.ref a)]) (plainFor_of_name (by first | decide +kernel | (simp [plainName, overriddenIn]; done))) (fun m => by first | rfl | (simp [entryFrame, mkF, argsToLocals, Value.category]; done)) ?_
  intro E T W
  refine go_aloadN (pc' := 1) W d3_0 rfl rfl rfl ?_
  refine go_initO (pc' := 4) W (w17 hw) (w18 hw) (w19 hw) d3_1 rfl (nb rfl) (nb rfl) rfl ?_
  intro T17 W17
  refine go_aloadN (pc' := 5) W17 d3_4 rfl rfl rfl ?_
  refine go_bipush (pc' := 7) (z := 16) W17 d3_5 (by decide) rfl ?_
  refine go_newP (pc' := 9) (aty := .int) W17 (w20 hw) d3_7 (by decide) 16 (by decide) (by decide) (nb rfl) (nb rfl) rfl ?_
  intro T18 h18 cA18 b18 g18 W18 E18 A18
  have ne19 : a ≠ b18 := by rw [g18]; exact Nat.ne_of_lt Ea.lt
  have ge20 : n0 ≤ b18 := by rw [g18]; exact Z0
  have old21 : h0.size ≤ b18 := by rw [g18]; exact (Keep.refl h0 [a]).1
  have f22 := Ea.ext E18
  have f23 := F0.ext E18
  have f24 := F1.ext E18
  have f25 := F2.ext E18
  have f26 := F3.ext E18
  have f27 := F4.ext E18
  have f28 := F5.ext E18
  have f29 := F6.ext E18
  have f30 := F7.ext E18
  have k31 := (Keep.refl h0 [a]).ext E18
  have z32 := Nat.le_trans Z0 E18.1
  have f33 : Af Z h18 b18 .int 16 (fun _ => (.int (0 : Int32))) := Af.new A18 rfl
  refine go_putF (pc' := 12) W18 (host := "") (Or.inl (w21 hw)) Via.refl f23 f22 (Or.inr ⟨(w22 hw), rfl, rfl⟩) (w12 hw) (ty := (.array .int)) (by decide) rfl rfl ga d3_9 rfl ?_
  intro T34 h34 W34 R34
  have f35 := f22.wr R34
  have f36 := f23.same R34
  have f37 := f24.other R34 (Or.inr (slot_ne (Or.inr (w24 hw)) (Or.inr (w22 hw)) (by decide) (t := (.array .int)) (t' := (.array .int)) (by decide) (by decide)))
  have f38 := f25.other R34 (Or.inr (slot_ne (Or.inr (w27 hw)) (Or.inr (w22 hw)) (by decide) (t := (.array .byte)) (t' := (.array .int)) (by decide) (by decide)))
  have f39 := f26.other R34 (Or.inr (slot_ne (Or.inl (w44 hw)) (Or.inr (w22 hw)) (by decide) (t := .int) (t' := (.array .int)) (by decide) (by decide)))
  have f40 := f27.other R34 (Or.inr (slot_ne (Or.inl (w48 hw)) (Or.inr (w22 hw)) (by decide) (t := .int) (t' := (.array .int)) (by decide) (by decide)))
  have f41 := f28.other R34 (Or.inr (slot_ne (Or.inl (w29 hw)) (Or.inr (w22 hw)) (by decide) (t := .int) (t' := (.array .int)) (by decide) (by decide)))
  have f42 := f29.other R34 (Or.inr (slot_ne (Or.inl (w46 hw)) (Or.inr (w22 hw)) (by decide) (t := .int) (t' := (.array .int)) (by decide) (by decide)))
  have f43 := f30.other R34 (Or.inr (slot_ne (Or.inl (w31 hw)) (Or.inr (w22 hw)) (by decide) (t := .byte) (t' := (.array .int)) (by decide) (by decide)))
  have f44 := f33.other R34 (Ne.symm ne19)
  have k45 := k31.wr R34 (Or.inl (by simp))
  have z46 := Nat.le_trans z32 (Keep.of_wr R34).1
  refine go_aloadN (pc' := 13) W34 d3_12 rfl rfl rfl ?_
  refine go_bipush (pc' := 15) (z := 16) W34 d3_13 (by decide) rfl ?_
  refine go_newP (pc' := 17) (aty := .int) W34 (w20 hw) d3_15 (by decide) 16 (by decide) (by decide) (nb rfl) (nb rfl) rfl ?_
  intro T47 h47 cA47 b47 g47 W47 E47 A47
  have ne48 : a ≠ b47 := by rw [g47]; exact Nat.ne_of_lt f35.lt
  have ne49 : b18 ≠ b47 := by rw [g47]; exact Nat.ne_of_lt f44.lt
  have ge50 : n0 ≤ b47 := by rw [g47]; exact z46
  have old51 : h0.size ≤ b47 := by rw [g47]; exact k45.1
  have f52 := f35.ext E47
  have f53 := f36.ext E47
  have f54 := f37.ext E47
  have f55 := f38.ext E47
  have f56 := f39.ext E47
  have f57 := f40.ext E47
  have f58 := f41.ext E47
  have f59 := f42.ext E47
  have f60 := f43.ext E47
  have f61 := f44.ext E47
  have k62 := k45.ext E47
  have z63 := Nat.le_trans z46 E47.1
  have f64 : Af Z h47 b47 .int 16 (fun _ => (.int (0 : Int32))) := Af.new A47 rfl
  refine go_putF (pc' := 20) W47 (host := "") (Or.inl (w23 hw)) Via.refl f54 f52 (Or.inr ⟨(w24 hw), rfl, rfl⟩) (w12 hw) (ty := (.array .int)) (by decide) rfl rfl ga d3_17 rfl ?_
  intro T65 h65 W65 R65
  have f66 := f52.wr R65
  have f67 := f53.other R65 (Or.inr (slot_ne (Or.inr (w22 hw)) (Or.inr (w24 hw)) (by decide) (t := (.array .int)) (t' := (.array .int)) (by decide) (by decide)))
  have f68 := f54.same R65
  have f69 := f55.other R65 (Or.inr (slot_ne (Or.inr (w27 hw)) (Or.inr (w24 hw)) (by decide) (t := (.array .byte)) (t' := (.array .int)) (by decide) (by decide)))
  have f70 := f56.other R65 (Or.inr (slot_ne (Or.inl (w44 hw)) (Or.inr (w24 hw)) (by decide) (t := .int) (t' := (.array .int)) (by decide) (by decide)))
  have f71 := f57.other R65 (Or.inr (slot_ne (Or.inl (w48 hw)) (Or.inr (w24 hw)) (by decide) (t := .int) (t' := (.array .int)) (by decide) (by decide)))
  have f72 := f58.other R65 (Or.inr (slot_ne (Or.inl (w29 hw)) (Or.inr (w24 hw)) (by decide) (t := .int) (t' := (.array .int)) (by decide) (by decide)))
  have f73 := f59.other R65 (Or.inr (slot_ne (Or.inl (w46 hw)) (Or.inr (w24 hw)) (by decide) (t := .int) (t' := (.array .int)) (by decide) (by decide)))
  have f74 := f60.other R65 (Or.inr (slot_ne (Or.inl (w31 hw)) (Or.inr (w24 hw)) (by decide) (t := .byte) (t' := (.array .int)) (by decide) (by decide)))
  have f75 := f61.other R65 (Ne.symm ne19)
  have f76 := f64.other R65 (Ne.symm ne48)
  have k77 := k62.wr R65 (Or.inl (by simp))
  have z78 := Nat.le_trans z63 (Keep.of_wr R65).1
  refine go_aloadN (pc' := 21) W65 d3_20 rfl rfl rfl ?_
  refine go_bipush (pc' := 23) (z := 16) W65 d3_21 (by decide) rfl ?_
  refine go_newP (pc' := 25) (aty := .byte) W65 (w25 hw) d3_23 (by decide) 16 (by decide) (by decide) (nb rfl) (nb rfl) rfl ?_
  intro T79 h79 cA79 b79 g79 W79 E79 A79
  have ne80 : a ≠ b79 := by rw [g79]; exact Nat.ne_of_lt f66.lt
  have ne81 : b18 ≠ b79 := by rw [g79]; exact Nat.ne_of_lt f75.lt
  have ne82 : b47 ≠ b79 := by rw [g79]; exact Nat.ne_of_lt f76.lt
  have ge83 : n0 ≤ b79 := by rw [g79]; exact z78
  have old84 : h0.size ≤ b79 := by rw [g79]; exact k77.1
  have f85 := f66.ext E79
  have f86 := f67.ext E79
  have f87 := f68.ext E79
  have f88 := f69.ext E79
  have f89 := f70.ext E79
  have f90 := f71.ext E79
  have f91 := f72.ext E79
  have f92 := f73.ext E79
  have f93 := f74.ext E79
  have f94 := f75.ext E79
  have f95 := f76.ext E79
  have k96 := k77.ext E79
  have z97 := Nat.le_trans z78 E79.1
  have f98 : Af Z h79 b79 .byte 16 (fun _ => (.int (0 : Int32))) := Af.new A79 rfl
  refine go_putF (pc' := 28) W79 (host := "") (Or.inl (w26 hw)) Via.refl f88 f85 (Or.inr ⟨(w27 hw), rfl, rfl⟩) (w12 hw) (ty := (.array .byte)) (by decide) rfl rfl ga d3_25 rfl ?_
  intro T99 h99 W99 R99
  have f100 := f85.wr R99
  have f101 := f86.other R99 (Or.inr (slot_ne (Or.inr (w22 hw)) (Or.inr (w27 hw)) (by decide) (t := (.array .int)) (t' := (.array .byte)) (by decide) (by decide)))
  have f102 := f87.other R99 (Or.inr (slot_ne (Or.inr (w24 hw)) (Or.inr (w27 hw)) (by decide) (t := (.array .int)) (t' := (.array .byte)) (by decide) (by decide)))
  have f103 := f88.same R99
  have f104 := f89.other R99 (Or.inr (slot_ne (Or.inl (w44 hw)) (Or.inr (w27 hw)) (by decide) (t := .int) (t' := (.array .byte)) (by decide) (by decide)))
  have f105 := f90.other R99 (Or.inr (slot_ne (Or.inl (w48 hw)) (Or.inr (w27 hw)) (by decide) (t := .int) (t' := (.array .byte)) (by decide) (by decide)))
  have f106 := f91.other R99 (Or.inr (slot_ne (Or.inl (w29 hw)) (Or.inr (w27 hw)) (by decide) (t := .int) (t' := (.array .byte)) (by decide) (by decide)))
  have f107 := f92.other R99 (Or.inr (slot_ne (Or.inl (w46 hw)) (Or.inr (w27 hw)) (by decide) (t := .int) (t' := (.array .byte)) (by decide) (by decide)))
  have f108 := f93.other R99 (Or.inr (slot_ne (Or.inl (w31 hw)) (Or.inr (w27 hw)) (by decide) (t := .byte) (t' := (.array .byte)) (by decide) (by decide)))
  have f109 := f94.other R99 (Ne.symm ne19)
  have f110 := f95.other R99 (Ne.symm ne48)
  have f111 := f98.other R99 (Ne.symm ne80)
  have k112 := k96.wr R99 (Or.inl (by simp))
  have z113 := Nat.le_trans z97 (Keep.of_wr R99).1
  refine go_aloadN (pc' := 29) W99 d3_28 rfl rfl rfl ?_
  refine go_iconst (pc' := 30) (z := 1) W99 d3_29 rfl rfl ?_
  refine go_putF (pc' := 33) W99 (host := "") (Or.inl (w28 hw)) Via.refl f106 f100 (Or.inl (w29 hw)) (w12 hw) (ty := .int) (by decide) rfl rfl ga d3_30 rfl ?_
  intro T114 h114 W114 R114
  have f115 := f100.wr R114
  have f116 := f101.other R114 (Or.inr (slot_ne (Or.inr (w22 hw)) (Or.inl (w29 hw)) (by decide) (t := (.array .int)) (t' := .int) (by decide) (by decide)))
  have f117 := f102.other R114 (Or.inr (slot_ne (Or.inr (w24 hw)) (Or.inl (w29 hw)) (by decide) (t := (.array .int)) (t' := .int) (by decide) (by decide)))
  have f118 := f103.other R114 (Or.inr (slot_ne (Or.inr (w27 hw)) (Or.inl (w29 hw)) (by decide) (t := (.array .byte)) (t' := .int) (by decide) (by decide)))
  have f119 := f104.other R114 (Or.inr (slot_ne (Or.inl (w44 hw)) (Or.inl (w29 hw)) (by decide) (t := .int) (t' := .int) (by decide) (by decide)))
  have f120 := f105.other R114 (Or.inr (slot_ne (Or.inl (w48 hw)) (Or.inl (w29 hw)) (by decide) (t := .int) (t' := .int) (by decide) (by decide)))
  have f121 := f106.same R114
  have f122 := f107.other R114 (Or.inr (slot_ne (Or.inl (w46 hw)) (Or.inl (w29 hw)) (by decide) (t := .int) (t' := .int) (by decide) (by decide)))
  have f123 := f108.other R114 (Or.inr (slot_ne (Or.inl (w31 hw)) (Or.inl (w29 hw)) (by decide) (t := .byte) (t' := .int) (by decide) (by decide)))
  have f124 := f109.other R114 (Ne.symm ne19)
  have f125 := f110.other R114 (Ne.symm ne48)
  have f126 := f111.other R114 (Ne.symm ne80)
  have k127 := k112.wr R114 (Or.inl (by simp))
  have z128 := Nat.le_trans z113 (Keep.of_wr R114).1
  refine go_aloadN (pc' := 34) W114 d3_33 rfl rfl rfl ?_
  refine go_iconst (pc' := 35) (z := 0) W114 d3_34 rfl rfl ?_
  refine go_putF (pc' := 38) W114 (host := "") (Or.inl (w30 hw)) Via.refl f123 f115 (Or.inl (w31 hw)) (w12 hw) (ty := .byte) (by decide) rfl rfl ga d3_35 rfl ?_
  intro T129 h129 W129 R129
  have f130 := f115.wr R129
  have f131 := f116.other R129 (Or.inr (slot_ne (Or.inr (w22 hw)) (Or.inl (w31 hw)) (by decide) (t := (.array .int)) (t' := .byte) (by decide) (by decide)))
  have f132 := f117.other R129 (Or.inr (slot_ne (Or.inr (w24 hw)) (Or.inl (w31 hw)) (by decide) (t := (.array .int)) (t' := .byte) (by decide) (by decide)))
  have f133 := f118.other R129 (Or.inr (slot_ne (Or.inr (w27 hw)) (Or.inl (w31 hw)) (by decide) (t := (.array .byte)) (t' := .byte) (by decide) (by decide)))
  have f134 := f119.other R129 (Or.inr (slot_ne (Or.inl (w44 hw)) (Or.inl (w31 hw)) (by decide) (t := .int) (t' := .byte) (by decide) (by decide)))
  have f135 := f120.other R129 (Or.inr (slot_ne (Or.inl (w48 hw)) (Or.inl (w31 hw)) (by decide) (t := .int) (t' := .byte) (by decide) (by decide)))
  have f136 := f121.other R129 (Or.inr (slot_ne (Or.inl (w29 hw)) (Or.inl (w31 hw)) (by decide) (t := .int) (t' := .byte) (by decide) (by decide)))
  have f137 := f122.other R129 (Or.inr (slot_ne (Or.inl (w46 hw)) (Or.inl (w31 hw)) (by decide) (t := .int) (t' := .byte) (by decide) (by decide)))
  have f138 := f123.same R129
  have f139 := f124.other R129 (Ne.symm ne19)
  have f140 := f125.other R129 (Ne.symm ne48)
  have f141 := f126.other R129 (Ne.symm ne80)
  have k142 := k127.wr R129 (Or.inl (by simp))
  have z143 := Nat.le_trans z128 (Keep.of_wr R129).1
  exact go_retV W129 rfl d3_38 (nb rfl) (nb rfl) (⟨b18, b47, b79, rfl, ⟨ne19, ne48, ne80, ne49, ne81, ne82, ga, ge20, ge50, ge83⟩, old21, old51, old84, k142, f130, f131, f132, f133, f134, f135, f136, f137, f138, f139, f140, f141⟩)
set_option maxRecDepth 65536 in
set_option maxHeartbeats 4000000 in
theorem rm6 (l : Launch) (Z : State) (a0 : Array Value) (hw : Hw a0 Z) (a : Addr) (ch : Int32) (la ca ba : Addr) (nw kp : Int32) (t : Tri) (fl fc fb : Nat → Int32) (h0 : Heap) (n0 : Nat) (Z0 : n0 ≤ h0.size) (P0 : own_Pos Z h0 a la ca ba nw kp t fl fc fb) (NE : own_Ne n0 a la ca ba) (hn : 0 ≤ nw.toInt ∧ nw.toInt < 16) (hB : own_okB t.2.2) :
    Ct l Z K6 #[(.ref a), (.int ch)] h0 n0 (fun v h => v = none ∧ Keep h0 h [a, la, ca, ba] ∧ own_Pos Z h a la ca ba ((nw + (1 : Int32)) % (16 : Int32)) (own_min (kp + 1) 16) (own_step t ch) (own_upd fl (own_ix ((nw + (1 : Int32)) % (16 : Int32))) t.1) (own_upd fc (own_ix ((nw + (1 : Int32)) % (16 : Int32))) t.2.1) (own_upd fb (own_ix ((nw + (1 : Int32)) % (16 : Int32))) t.2.2)) := by
  refine Ct.of (Ls := #[.val (.ref a), .val (.int ch), .unset, .unset]) (plainFor_of_name (by first | decide +kernel | (simp [plainName, overriddenIn]; done))) (fun m => by first | rfl | (simp [entryFrame, mkF, argsToLocals, Value.category]; done)) ?_
  intro E T W
  obtain ⟨Ea, F0, F1, F2, F3, F4, F5, F6, F7, A0, A1, A2⟩ := P0
  obtain ⟨ne0, ne1, ne2, ne3, ne4, ne5, ge0, ge1, ge2, ge3⟩ := NE
  refine go_aloadN (pc' := 1) W d6_0 rfl rfl rfl ?_
  refine go_aloadN (pc' := 2) W d6_1 rfl rfl rfl ?_
  refine go_getF (pc' := 5) W (host := "") (Or.inl (w43 hw)) Via.refl F3 d6_2 rfl ?_
  intro T144 W144
  refine go_iconst (pc' := 6) (z := 1) W144 d6_5 rfl rfl ?_
  refine go_iadd (pc' := 7) W144 d6_6 rfl ?_
  refine go_bipush (pc' := 9) (z := 16) W144 d6_7 (by decide) rfl ?_
  refine go_irem (pc' := 10) W144 d6_9 (by decide) rfl ?_
  refine go_putF (pc' := 13) W144 (host := "") (Or.inl (w43 hw)) Via.refl F3 Ea (Or.inl (w44 hw)) (w12 hw) (ty := .int) (by decide) rfl rfl ge0 d6_10 rfl ?_
  intro T145 h145 W145 R145
  have f146 := Ea.wr R145
  have f147 := F0.other R145 (Or.inr (slot_ne (Or.inr (w22 hw)) (Or.inl (w44 hw)) (by decide) (t := (.array .int)) (t' := .int) (by decide) (by decide)))
  have f148 := F1.other R145 (Or.inr (slot_ne (Or.inr (w24 hw)) (Or.inl (w44 hw)) (by decide) (t := (.array .int)) (t' := .int) (by decide) (by decide)))
  have f149 := F2.other R145 (Or.inr (slot_ne (Or.inr (w27 hw)) (Or.inl (w44 hw)) (by decide) (t := (.array .byte)) (t' := .int) (by decide) (by decide)))
  have f150 := F3.same R145
  have f151 := F4.other R145 (Or.inr (slot_ne (Or.inl (w48 hw)) (Or.inl (w44 hw)) (by decide) (t := .int) (t' := .int) (by decide) (by decide)))
  have f152 := F5.other R145 (Or.inr (slot_ne (Or.inl (w29 hw)) (Or.inl (w44 hw)) (by decide) (t := .int) (t' := .int) (by decide) (by decide)))
  have f153 := F6.other R145 (Or.inr (slot_ne (Or.inl (w46 hw)) (Or.inl (w44 hw)) (by decide) (t := .int) (t' := .int) (by decide) (by decide)))
  have f154 := F7.other R145 (Or.inr (slot_ne (Or.inl (w31 hw)) (Or.inl (w44 hw)) (by decide) (t := .byte) (t' := .int) (by decide) (by decide)))
  have f155 := A0.other R145 (Ne.symm ne0)
  have f156 := A1.other R145 (Ne.symm ne1)
  have f157 := A2.other R145 (Ne.symm ne2)
  have k158 := (Keep.refl h0 [a, la, ca, ba]).wr R145 (Or.inl (by simp))
  have z159 := Nat.le_trans Z0 (Keep.of_wr R145).1
  refine go_aloadN (pc' := 14) W145 d6_13 rfl rfl rfl ?_
  refine go_getF (pc' := 17) W145 (host := "") (Or.inl (w21 hw)) Via.refl f147 d6_14 rfl ?_
  intro T160 W160
  refine go_aloadN (pc' := 18) W160 d6_17 rfl rfl rfl ?_
  refine go_getF (pc' := 21) W160 (host := "") (Or.inl (w43 hw)) Via.refl f150 d6_18 rfl ?_
  intro T161 W161
  refine go_aloadN (pc' := 22) W161 d6_21 rfl rfl rfl ?_
  refine go_getF (pc' := 25) W161 (host := "") (Or.inl (w28 hw)) Via.refl f152 d6_22 rfl ?_
  intro T162 W162
  refine go_stIF (pc' := 26) (i := (own_ix ((nw + (1 : Int32)) % (16 : Int32)))) W162 f155 (own_nwi nw hn).1 (own_nwi nw hn).2.1 ge1 d6_25 rfl ?_
  intro T163 h163 W163 R163 A163
  have f164 := f146.wr R163
  have f165 := f147.other R163 (Or.inl ne0)
  have f166 := f148.other R163 (Or.inl ne0)
  have f167 := f149.other R163 (Or.inl ne0)
  have f168 := f150.other R163 (Or.inl ne0)
  have f169 := f151.other R163 (Or.inl ne0)
  have f170 := f152.other R163 (Or.inl ne0)
  have f171 := f153.other R163 (Or.inl ne0)
  have f172 := f154.other R163 (Or.inl ne0)
  have f174 := f156.other R163 (Ne.symm ne3)
  have f175 := f157.other R163 (Ne.symm ne4)
  have k176 := k158.wr R163 (Or.inl (by simp))
  have z177 := Nat.le_trans z159 (Keep.of_wr R163).1
  refine go_aloadN (pc' := 27) W163 d6_26 rfl rfl rfl ?_
  refine go_getF (pc' := 30) W163 (host := "") (Or.inl (w23 hw)) Via.refl f166 d6_27 rfl ?_
  intro T178 W178
  refine go_aloadN (pc' := 31) W178 d6_30 rfl rfl rfl ?_
  refine go_getF (pc' := 34) W178 (host := "") (Or.inl (w43 hw)) Via.refl f168 d6_31 rfl ?_
  intro T179 W179
  refine go_aloadN (pc' := 35) W179 d6_34 rfl rfl rfl ?_
  refine go_getF (pc' := 38) W179 (host := "") (Or.inl (w45 hw)) Via.refl f171 d6_35 rfl ?_
  intro T180 W180
  refine go_stIF (pc' := 39) (i := (own_ix ((nw + (1 : Int32)) % (16 : Int32)))) W180 f174 (own_nwi nw hn).1 (own_nwi nw hn).2.1 ge2 d6_38 rfl ?_
  intro T181 h181 W181 R181 A181
  have f182 := f164.wr R181
  have f183 := f165.other R181 (Or.inl ne1)
  have f184 := f166.other R181 (Or.inl ne1)
  have f185 := f167.other R181 (Or.inl ne1)
  have f186 := f168.other R181 (Or.inl ne1)
  have f187 := f169.other R181 (Or.inl ne1)
  have f188 := f170.other R181 (Or.inl ne1)
  have f189 := f171.other R181 (Or.inl ne1)
  have f190 := f172.other R181 (Or.inl ne1)
  have f192 := f175.other R181 (Ne.symm ne5)
  have f193 := A163.other R181 ne3
  have k194 := k176.wr R181 (Or.inl (by simp))
  have z195 := Nat.le_trans z177 (Keep.of_wr R181).1
  refine go_aloadN (pc' := 40) W181 d6_39 rfl rfl rfl ?_
  refine go_getF (pc' := 43) W181 (host := "") (Or.inl (w26 hw)) Via.refl f185 d6_40 rfl ?_
  intro T196 W196
  refine go_aloadN (pc' := 44) W196 d6_43 rfl rfl rfl ?_
  refine go_getF (pc' := 47) W196 (host := "") (Or.inl (w43 hw)) Via.refl f186 d6_44 rfl ?_
  intro T197 W197
  refine go_aloadN (pc' := 48) W197 d6_47 rfl rfl rfl ?_
  refine go_getF (pc' := 51) W197 (host := "") (Or.inl (w30 hw)) Via.refl f190 d6_48 rfl ?_
  intro T198 W198
  refine go_stBF (pc' := 52) (i := (own_ix ((nw + (1 : Int32)) % (16 : Int32)))) W198 f192 (own_nwi nw hn).1 (own_nwi nw hn).2.1 ge3 d6_51 rfl ?_
  intro T199 h199 W199 R199 A199
  have f200 := f182.wr R199
  have f201 := f183.other R199 (Or.inl ne2)
  have f202 := f184.other R199 (Or.inl ne2)
  have f203 := f185.other R199 (Or.inl ne2)
  have f204 := f186.other R199 (Or.inl ne2)
  have f205 := f187.other R199 (Or.inl ne2)
  have f206 := f188.other R199 (Or.inl ne2)
  have f207 := f189.other R199 (Or.inl ne2)
  have f208 := f190.other R199 (Or.inl ne2)
  have f210 := f193.other R199 ne4
  have f211 := A181.other R199 ne5
  have k212 := k194.wr R199 (Or.inl (by simp))
  have z213 := Nat.le_trans z195 (Keep.of_wr R199).1
  refine go_aloadN (pc' := 53) W199 d6_52 rfl rfl rfl ?_
  refine go_aloadN (pc' := 54) W199 d6_53 rfl rfl rfl ?_
  refine go_getF (pc' := 57) W199 (host := "") (Or.inl (w47 hw)) Via.refl f205 d6_54 rfl ?_
  intro T214 W214
  refine go_iconst (pc' := 58) (z := 1) W214 d6_57 rfl rfl ?_
  refine go_iadd (pc' := 59) W214 d6_58 rfl ?_
  refine go_bipush (pc' := 61) (z := 16) W214 d6_59 (by decide) rfl ?_
  refine go_callS (kc := K7) (argsL := [(.int (kp + (1 : Int32))), (.int (16 : Int32))]) (rest := [(.ref a)]) (pc' := 64) W214 (w49 hw) (w50 hw) (w9 hw) (w51 hw) (rm7 E.l Z a0 hw (kp + (1 : Int32)) (16 : Int32) h199 n0 z213) (by decide) pd0 rfl rfl rfl (nb rfl) (nb rfl) (nb rfl) (nb rfl) d6_61 rfl ?_
  rintro _ T215 h215 ⟨rfl, q215⟩ W215
  replace W215 := W215.sub q215
  show Go E _ (Fm E T215 64 #[.val (.ref a), .val (.int ch), .unset, .unset] [(.int (own_min (kp + (1 : Int32)) (16 : Int32))), (.ref a)])
  refine go_putF (pc' := 67) W215 (host := "") (Or.inl (w47 hw)) Via.refl f205 f200 (Or.inl (w48 hw)) (w12 hw) (ty := .int) (by decide) rfl rfl ge0 d6_64 rfl ?_
  intro T216 h216 W216 R216
  have f217 := f200.wr R216
  have f218 := f201.other R216 (Or.inr (slot_ne (Or.inr (w22 hw)) (Or.inl (w48 hw)) (by decide) (t := (.array .int)) (t' := .int) (by decide) (by decide)))
  have f219 := f202.other R216 (Or.inr (slot_ne (Or.inr (w24 hw)) (Or.inl (w48 hw)) (by decide) (t := (.array .int)) (t' := .int) (by decide) (by decide)))
  have f220 := f203.other R216 (Or.inr (slot_ne (Or.inr (w27 hw)) (Or.inl (w48 hw)) (by decide) (t := (.array .byte)) (t' := .int) (by decide) (by decide)))
  have f221 := f204.other R216 (Or.inr (slot_ne (Or.inl (w44 hw)) (Or.inl (w48 hw)) (by decide) (t := .int) (t' := .int) (by decide) (by decide)))
  have f222 := f205.same R216
  have f223 := f206.other R216 (Or.inr (slot_ne (Or.inl (w29 hw)) (Or.inl (w48 hw)) (by decide) (t := .int) (t' := .int) (by decide) (by decide)))
  have f224 := f207.other R216 (Or.inr (slot_ne (Or.inl (w46 hw)) (Or.inl (w48 hw)) (by decide) (t := .int) (t' := .int) (by decide) (by decide)))
  have f225 := f208.other R216 (Or.inr (slot_ne (Or.inl (w31 hw)) (Or.inl (w48 hw)) (by decide) (t := .byte) (t' := .int) (by decide) (by decide)))
  have f226 := f210.other R216 (Ne.symm ne0)
  have f227 := f211.other R216 (Ne.symm ne1)
  have f228 := A199.other R216 (Ne.symm ne2)
  have k229 := k212.wr R216 (Or.inl (by simp))
  have z230 := Nat.le_trans z213 (Keep.of_wr R216).1
  refine go_iloadN (pc' := 68) W216 d6_67 rfl rfl ?_
  refine go_bipush (pc' := 70) (z := 10) W216 d6_68 (by decide) rfl ?_
  refine go_icmp_ne (pt := 85) (pf := 73) W216 d6_70 (by decide) rfl rfl (fun c70_231 => ?_) (fun c70_231 => ?_)
  · -- pc 70 taken
    refine go_iconst (pc' := 86) (z := 0) W216 d6_85 rfl rfl ?_
    refine go_istoreN (pc' := 87) (l' := #[.val (.ref a), .val (.int ch), .val (.int (0 : Int32)), .unset]) W216 d6_86 rfl rfl ?_
    refine go_iloadN (pc' := 88) W216 d6_87 rfl rfl ?_
    refine go_ldcInt (pc' := 90) W216 (w52 hw) d6_88 rfl ?_
    refine go_icmp_gt (pt := 105) (pf := 93) W216 d6_90 (by decide) rfl rfl (fun c90_232 => ?_) (fun c90_232 => ?_)
    · -- pc 90 taken
      refine go_iconst (pc' := 106) (z := 0) W216 d6_105 rfl rfl ?_
      refine go_istoreN (pc' := 107) (l' := #[.val (.ref a), .val (.int ch), .val (.int (0 : Int32)), .val (.int (0 : Int32))]) W216 d6_106 rfl rfl ?_
      refine go_iloadN (pc' := 108) W216 d6_107 rfl rfl ?_
      refine go_if_eq (pt := 119) (pf := 111) W216 d6_108 (by decide) rfl rfl (fun c108_233 => ?_) (fun c108_233 => ?_)
      · -- pc 108 taken
        refine go_iloadN (pc' := 120) W216 d6_119 rfl rfl ?_
        refine go_if_ne (pt := 196) (pf := 123) W216 d6_120 (by decide) rfl rfl (fun c120_234 => ?_) (fun c120_234 => ?_)
        · exact absurd c120_234 (by decide)
        · -- pc 120 not taken
          refine go_aloadN (pc' := 124) W216 d6_123 rfl rfl rfl ?_
          refine go_getF (pc' := 127) W216 (host := "") (Or.inl (w30 hw)) Via.refl f225 d6_124 rfl ?_
          intro T235 W235
          refine go_if_eq (pt := 145) (pf := 130) W235 d6_127 (by decide) rfl rfl (fun c127_236 => ?_) (fun c127_236 => ?_)
          · -- pc 127 taken
            refine go_aloadN (pc' := 146) W235 d6_145 rfl rfl rfl ?_
            refine go_dup (pc' := 147) W235 d6_146 rfl rfl ?_
            refine go_getF (pc' := 150) W235 (host := "") (Or.inl (w45 hw)) Via.refl f224 d6_147 rfl ?_
            intro T237 W237
            refine go_iconst (pc' := 151) (z := 1) W237 d6_150 rfl rfl ?_
            refine go_iadd (pc' := 152) W237 d6_151 rfl ?_
            refine go_putF (pc' := 155) W237 (host := "") (Or.inl (w45 hw)) Via.refl f224 f217 (Or.inl (w46 hw)) (w12 hw) (ty := .int) (by decide) rfl rfl ge0 d6_152 rfl ?_
            intro T238 h238 W238 R238
            have f239 := f217.wr R238
            have f240 := f218.other R238 (Or.inr (slot_ne (Or.inr (w22 hw)) (Or.inl (w46 hw)) (by decide) (t := (.array .int)) (t' := .int) (by decide) (by decide)))
            have f241 := f219.other R238 (Or.inr (slot_ne (Or.inr (w24 hw)) (Or.inl (w46 hw)) (by decide) (t := (.array .int)) (t' := .int) (by decide) (by decide)))
            have f242 := f220.other R238 (Or.inr (slot_ne (Or.inr (w27 hw)) (Or.inl (w46 hw)) (by decide) (t := (.array .byte)) (t' := .int) (by decide) (by decide)))
            have f243 := f221.other R238 (Or.inr (slot_ne (Or.inl (w44 hw)) (Or.inl (w46 hw)) (by decide) (t := .int) (t' := .int) (by decide) (by decide)))
            have f244 := f222.other R238 (Or.inr (slot_ne (Or.inl (w48 hw)) (Or.inl (w46 hw)) (by decide) (t := .int) (t' := .int) (by decide) (by decide)))
            have f245 := f223.other R238 (Or.inr (slot_ne (Or.inl (w29 hw)) (Or.inl (w46 hw)) (by decide) (t := .int) (t' := .int) (by decide) (by decide)))
            have f246 := f224.same R238
            have f247 := f225.other R238 (Or.inr (slot_ne (Or.inl (w31 hw)) (Or.inl (w46 hw)) (by decide) (t := .byte) (t' := .int) (by decide) (by decide)))
            have f248 := f226.other R238 (Ne.symm ne0)
            have f249 := f227.other R238 (Ne.symm ne1)
            have f250 := f228.other R238 (Ne.symm ne2)
            have k251 := k229.wr R238 (Or.inl (by simp))
            have z252 := Nat.le_trans z230 (Keep.of_wr R238).1
            refine go_aloadN (pc' := 156) W238 d6_155 rfl rfl rfl ?_
            refine go_iloadN (pc' := 157) W238 d6_156 rfl rfl ?_
            by_cases h13 : ch = 13
            · refine go_lsw (pc' := 188) W238 d6_157 (by intro a b c d h; simp at h; omega) (by rw [own_sw, if_neg c70_231, if_pos h13]; decide) (by rw [own_sw, if_neg c70_231, if_pos h13]; decide) ?_
              refine go_iconst (pc' := 189) (z := 2) W238 d6_188 rfl rfl ?_
              refine go_goto (pc' := 193) W238 d6_189 (by decide) rfl ?_
              refine go_putF (pc' := 196) W238 (host := "") (Or.inl (w30 hw)) Via.refl f247 f239 (Or.inl (w31 hw)) (w12 hw) (ty := .byte) (by decide) rfl rfl ge0 d6_193 rfl ?_
              intro T253 h253 W253 R253
              have f254 := f239.wr R253
              have f255 := f240.other R253 (Or.inr (slot_ne (Or.inr (w22 hw)) (Or.inl (w31 hw)) (by decide) (t := (.array .int)) (t' := .byte) (by decide) (by decide)))
              have f256 := f241.other R253 (Or.inr (slot_ne (Or.inr (w24 hw)) (Or.inl (w31 hw)) (by decide) (t := (.array .int)) (t' := .byte) (by decide) (by decide)))
              have f257 := f242.other R253 (Or.inr (slot_ne (Or.inr (w27 hw)) (Or.inl (w31 hw)) (by decide) (t := (.array .byte)) (t' := .byte) (by decide) (by decide)))
              have f258 := f243.other R253 (Or.inr (slot_ne (Or.inl (w44 hw)) (Or.inl (w31 hw)) (by decide) (t := .int) (t' := .byte) (by decide) (by decide)))
              have f259 := f244.other R253 (Or.inr (slot_ne (Or.inl (w48 hw)) (Or.inl (w31 hw)) (by decide) (t := .int) (t' := .byte) (by decide) (by decide)))
              have f260 := f245.other R253 (Or.inr (slot_ne (Or.inl (w29 hw)) (Or.inl (w31 hw)) (by decide) (t := .int) (t' := .byte) (by decide) (by decide)))
              have f261 := f246.other R253 (Or.inr (slot_ne (Or.inl (w46 hw)) (Or.inl (w31 hw)) (by decide) (t := .int) (t' := .byte) (by decide) (by decide)))
              have f262 := f247.same R253
              have f263 := f248.other R253 (Ne.symm ne0)
              have f264 := f249.other R253 (Ne.symm ne1)
              have f265 := f250.other R253 (Ne.symm ne2)
              have k266 := k251.wr R253 (Or.inl (by simp))
              have z267 := Nat.le_trans z252 (Keep.of_wr R253).1
              exact go_retV W253 rfl d6_196 (nb rfl) (nb rfl) (by
                  rw [h13] at c90_232; exact absurd c90_232 (by decide))
            · refine go_lsw (pc' := 192) W238 d6_157 (by intro a b c d h; simp at h; omega) (by rw [own_sw, if_neg c70_231, if_neg h13]; decide) (by rw [own_sw, if_neg c70_231, if_neg h13]; decide) ?_
              refine go_iconst (pc' := 193) (z := 0) W238 d6_192 rfl rfl ?_
              refine go_putF (pc' := 196) W238 (host := "") (Or.inl (w30 hw)) Via.refl f247 f239 (Or.inl (w31 hw)) (w12 hw) (ty := .byte) (by decide) rfl rfl ge0 d6_193 rfl ?_
              intro T268 h268 W268 R268
              have f269 := f239.wr R268
              have f270 := f240.other R268 (Or.inr (slot_ne (Or.inr (w22 hw)) (Or.inl (w31 hw)) (by decide) (t := (.array .int)) (t' := .byte) (by decide) (by decide)))
              have f271 := f241.other R268 (Or.inr (slot_ne (Or.inr (w24 hw)) (Or.inl (w31 hw)) (by decide) (t := (.array .int)) (t' := .byte) (by decide) (by decide)))
              have f272 := f242.other R268 (Or.inr (slot_ne (Or.inr (w27 hw)) (Or.inl (w31 hw)) (by decide) (t := (.array .byte)) (t' := .byte) (by decide) (by decide)))
              have f273 := f243.other R268 (Or.inr (slot_ne (Or.inl (w44 hw)) (Or.inl (w31 hw)) (by decide) (t := .int) (t' := .byte) (by decide) (by decide)))
              have f274 := f244.other R268 (Or.inr (slot_ne (Or.inl (w48 hw)) (Or.inl (w31 hw)) (by decide) (t := .int) (t' := .byte) (by decide) (by decide)))
              have f275 := f245.other R268 (Or.inr (slot_ne (Or.inl (w29 hw)) (Or.inl (w31 hw)) (by decide) (t := .int) (t' := .byte) (by decide) (by decide)))
              have f276 := f246.other R268 (Or.inr (slot_ne (Or.inl (w46 hw)) (Or.inl (w31 hw)) (by decide) (t := .int) (t' := .byte) (by decide) (by decide)))
              have f277 := f247.same R268
              have f278 := f248.other R268 (Ne.symm ne0)
              have f279 := f249.other R268 (Ne.symm ne1)
              have f280 := f250.other R268 (Ne.symm ne2)
              have k281 := k251.wr R268 (Or.inl (by simp))
              have z282 := Nat.le_trans z252 (Keep.of_wr R268).1
              exact go_retV W268 rfl d6_196 (nb rfl) (nb rfl) (by
                  have e : own_step t ch = (t.1, (t.2.1 + (1 : Int32)), (0 : Int32)) := by simp [own_step, own_low13, own_low10, c70_231, c90_232, c108_233, c120_234, c127_236, h13]
                  rw [e]
                  exact ⟨rfl, k281, f269, f270, f271, f272, f273, f274, f275, f276, f277, f278.congr (fun j _ => by simp only [own_upd]; split <;> rfl), f279.congr (fun j _ => by simp only [own_upd]; split <;> rfl), f280.congr (fun j _ => by simp only [own_upd]; split <;> first | rfl | exact congrArg Value.int hB)⟩)
          · -- pc 127 not taken
            refine go_aloadN (pc' := 131) W235 d6_130 rfl rfl rfl ?_
            refine go_dup (pc' := 132) W235 d6_131 rfl rfl ?_
            refine go_getF (pc' := 135) W235 (host := "") (Or.inl (w28 hw)) Via.refl f223 d6_132 rfl ?_
            intro T283 W283
            refine go_iconst (pc' := 136) (z := 1) W283 d6_135 rfl rfl ?_
            refine go_iadd (pc' := 137) W283 d6_136 rfl ?_
            refine go_putF (pc' := 140) W283 (host := "") (Or.inl (w28 hw)) Via.refl f223 f217 (Or.inl (w29 hw)) (w12 hw) (ty := .int) (by decide) rfl rfl ge0 d6_137 rfl ?_
            intro T284 h284 W284 R284
            have f285 := f217.wr R284
            have f286 := f218.other R284 (Or.inr (slot_ne (Or.inr (w22 hw)) (Or.inl (w29 hw)) (by decide) (t := (.array .int)) (t' := .int) (by decide) (by decide)))
            have f287 := f219.other R284 (Or.inr (slot_ne (Or.inr (w24 hw)) (Or.inl (w29 hw)) (by decide) (t := (.array .int)) (t' := .int) (by decide) (by decide)))
            have f288 := f220.other R284 (Or.inr (slot_ne (Or.inr (w27 hw)) (Or.inl (w29 hw)) (by decide) (t := (.array .byte)) (t' := .int) (by decide) (by decide)))
            have f289 := f221.other R284 (Or.inr (slot_ne (Or.inl (w44 hw)) (Or.inl (w29 hw)) (by decide) (t := .int) (t' := .int) (by decide) (by decide)))
            have f290 := f222.other R284 (Or.inr (slot_ne (Or.inl (w48 hw)) (Or.inl (w29 hw)) (by decide) (t := .int) (t' := .int) (by decide) (by decide)))
            have f291 := f223.same R284
            have f292 := f224.other R284 (Or.inr (slot_ne (Or.inl (w46 hw)) (Or.inl (w29 hw)) (by decide) (t := .int) (t' := .int) (by decide) (by decide)))
            have f293 := f225.other R284 (Or.inr (slot_ne (Or.inl (w31 hw)) (Or.inl (w29 hw)) (by decide) (t := .byte) (t' := .int) (by decide) (by decide)))
            have f294 := f226.other R284 (Ne.symm ne0)
            have f295 := f227.other R284 (Ne.symm ne1)
            have f296 := f228.other R284 (Ne.symm ne2)
            have k297 := k229.wr R284 (Or.inl (by simp))
            have z298 := Nat.le_trans z230 (Keep.of_wr R284).1
            refine go_aloadN (pc' := 141) W284 d6_140 rfl rfl rfl ?_
            refine go_iconst (pc' := 142) (z := 0) W284 d6_141 rfl rfl ?_
            refine go_putF (pc' := 145) W284 (host := "") (Or.inl (w45 hw)) Via.refl f292 f285 (Or.inl (w46 hw)) (w12 hw) (ty := .int) (by decide) rfl rfl ge0 d6_142 rfl ?_
            intro T299 h299 W299 R299
            have f300 := f285.wr R299
            have f301 := f286.other R299 (Or.inr (slot_ne (Or.inr (w22 hw)) (Or.inl (w46 hw)) (by decide) (t := (.array .int)) (t' := .int) (by decide) (by decide)))
            have f302 := f287.other R299 (Or.inr (slot_ne (Or.inr (w24 hw)) (Or.inl (w46 hw)) (by decide) (t := (.array .int)) (t' := .int) (by decide) (by decide)))
            have f303 := f288.other R299 (Or.inr (slot_ne (Or.inr (w27 hw)) (Or.inl (w46 hw)) (by decide) (t := (.array .byte)) (t' := .int) (by decide) (by decide)))
            have f304 := f289.other R299 (Or.inr (slot_ne (Or.inl (w44 hw)) (Or.inl (w46 hw)) (by decide) (t := .int) (t' := .int) (by decide) (by decide)))
            have f305 := f290.other R299 (Or.inr (slot_ne (Or.inl (w48 hw)) (Or.inl (w46 hw)) (by decide) (t := .int) (t' := .int) (by decide) (by decide)))
            have f306 := f291.other R299 (Or.inr (slot_ne (Or.inl (w29 hw)) (Or.inl (w46 hw)) (by decide) (t := .int) (t' := .int) (by decide) (by decide)))
            have f307 := f292.same R299
            have f308 := f293.other R299 (Or.inr (slot_ne (Or.inl (w31 hw)) (Or.inl (w46 hw)) (by decide) (t := .byte) (t' := .int) (by decide) (by decide)))
            have f309 := f294.other R299 (Ne.symm ne0)
            have f310 := f295.other R299 (Ne.symm ne1)
            have f311 := f296.other R299 (Ne.symm ne2)
            have k312 := k297.wr R299 (Or.inl (by simp))
            have z313 := Nat.le_trans z298 (Keep.of_wr R299).1
            refine go_aloadN (pc' := 146) W299 d6_145 rfl rfl rfl ?_
            refine go_dup (pc' := 147) W299 d6_146 rfl rfl ?_
            refine go_getF (pc' := 150) W299 (host := "") (Or.inl (w45 hw)) Via.refl f307 d6_147 rfl ?_
            intro T314 W314
            refine go_iconst (pc' := 151) (z := 1) W314 d6_150 rfl rfl ?_
            refine go_iaddZ (pc' := 152) (z := 1) W314 d6_151 (by decide) rfl ?_
            refine go_putF (pc' := 155) W314 (host := "") (Or.inl (w45 hw)) Via.refl f307 f300 (Or.inl (w46 hw)) (w12 hw) (ty := .int) (by decide) rfl rfl ge0 d6_152 rfl ?_
            intro T315 h315 W315 R315
            have f316 := f300.wr R315
            have f317 := f301.other R315 (Or.inr (slot_ne (Or.inr (w22 hw)) (Or.inl (w46 hw)) (by decide) (t := (.array .int)) (t' := .int) (by decide) (by decide)))
            have f318 := f302.other R315 (Or.inr (slot_ne (Or.inr (w24 hw)) (Or.inl (w46 hw)) (by decide) (t := (.array .int)) (t' := .int) (by decide) (by decide)))
            have f319 := f303.other R315 (Or.inr (slot_ne (Or.inr (w27 hw)) (Or.inl (w46 hw)) (by decide) (t := (.array .byte)) (t' := .int) (by decide) (by decide)))
            have f320 := f304.other R315 (Or.inr (slot_ne (Or.inl (w44 hw)) (Or.inl (w46 hw)) (by decide) (t := .int) (t' := .int) (by decide) (by decide)))
            have f321 := f305.other R315 (Or.inr (slot_ne (Or.inl (w48 hw)) (Or.inl (w46 hw)) (by decide) (t := .int) (t' := .int) (by decide) (by decide)))
            have f322 := f306.other R315 (Or.inr (slot_ne (Or.inl (w29 hw)) (Or.inl (w46 hw)) (by decide) (t := .int) (t' := .int) (by decide) (by decide)))
            have f323 := f307.same R315
            have f324 := f308.other R315 (Or.inr (slot_ne (Or.inl (w31 hw)) (Or.inl (w46 hw)) (by decide) (t := .byte) (t' := .int) (by decide) (by decide)))
            have f325 := f309.other R315 (Ne.symm ne0)
            have f326 := f310.other R315 (Ne.symm ne1)
            have f327 := f311.other R315 (Ne.symm ne2)
            have k328 := k312.wr R315 (Or.inl (by simp))
            have z329 := Nat.le_trans z313 (Keep.of_wr R315).1
            refine go_aloadN (pc' := 156) W315 d6_155 rfl rfl rfl ?_
            refine go_iloadN (pc' := 157) W315 d6_156 rfl rfl ?_
            by_cases h13 : ch = 13
            · refine go_lsw (pc' := 188) W315 d6_157 (by intro a b c d h; simp at h; omega) (by rw [own_sw, if_neg c70_231, if_pos h13]; decide) (by rw [own_sw, if_neg c70_231, if_pos h13]; decide) ?_
              refine go_iconst (pc' := 189) (z := 2) W315 d6_188 rfl rfl ?_
              refine go_goto (pc' := 193) W315 d6_189 (by decide) rfl ?_
              refine go_putF (pc' := 196) W315 (host := "") (Or.inl (w30 hw)) Via.refl f324 f316 (Or.inl (w31 hw)) (w12 hw) (ty := .byte) (by decide) rfl rfl ge0 d6_193 rfl ?_
              intro T330 h330 W330 R330
              have f331 := f316.wr R330
              have f332 := f317.other R330 (Or.inr (slot_ne (Or.inr (w22 hw)) (Or.inl (w31 hw)) (by decide) (t := (.array .int)) (t' := .byte) (by decide) (by decide)))
              have f333 := f318.other R330 (Or.inr (slot_ne (Or.inr (w24 hw)) (Or.inl (w31 hw)) (by decide) (t := (.array .int)) (t' := .byte) (by decide) (by decide)))
              have f334 := f319.other R330 (Or.inr (slot_ne (Or.inr (w27 hw)) (Or.inl (w31 hw)) (by decide) (t := (.array .byte)) (t' := .byte) (by decide) (by decide)))
              have f335 := f320.other R330 (Or.inr (slot_ne (Or.inl (w44 hw)) (Or.inl (w31 hw)) (by decide) (t := .int) (t' := .byte) (by decide) (by decide)))
              have f336 := f321.other R330 (Or.inr (slot_ne (Or.inl (w48 hw)) (Or.inl (w31 hw)) (by decide) (t := .int) (t' := .byte) (by decide) (by decide)))
              have f337 := f322.other R330 (Or.inr (slot_ne (Or.inl (w29 hw)) (Or.inl (w31 hw)) (by decide) (t := .int) (t' := .byte) (by decide) (by decide)))
              have f338 := f323.other R330 (Or.inr (slot_ne (Or.inl (w46 hw)) (Or.inl (w31 hw)) (by decide) (t := .int) (t' := .byte) (by decide) (by decide)))
              have f339 := f324.same R330
              have f340 := f325.other R330 (Ne.symm ne0)
              have f341 := f326.other R330 (Ne.symm ne1)
              have f342 := f327.other R330 (Ne.symm ne2)
              have k343 := k328.wr R330 (Or.inl (by simp))
              have z344 := Nat.le_trans z329 (Keep.of_wr R330).1
              exact go_retV W330 rfl d6_196 (nb rfl) (nb rfl) (by
                  rw [h13] at c90_232; exact absurd c90_232 (by decide))
            · refine go_lsw (pc' := 192) W315 d6_157 (by intro a b c d h; simp at h; omega) (by rw [own_sw, if_neg c70_231, if_neg h13]; decide) (by rw [own_sw, if_neg c70_231, if_neg h13]; decide) ?_
              refine go_iconst (pc' := 193) (z := 0) W315 d6_192 rfl rfl ?_
              refine go_putF (pc' := 196) W315 (host := "") (Or.inl (w30 hw)) Via.refl f324 f316 (Or.inl (w31 hw)) (w12 hw) (ty := .byte) (by decide) rfl rfl ge0 d6_193 rfl ?_
              intro T345 h345 W345 R345
              have f346 := f316.wr R345
              have f347 := f317.other R345 (Or.inr (slot_ne (Or.inr (w22 hw)) (Or.inl (w31 hw)) (by decide) (t := (.array .int)) (t' := .byte) (by decide) (by decide)))
              have f348 := f318.other R345 (Or.inr (slot_ne (Or.inr (w24 hw)) (Or.inl (w31 hw)) (by decide) (t := (.array .int)) (t' := .byte) (by decide) (by decide)))
              have f349 := f319.other R345 (Or.inr (slot_ne (Or.inr (w27 hw)) (Or.inl (w31 hw)) (by decide) (t := (.array .byte)) (t' := .byte) (by decide) (by decide)))
              have f350 := f320.other R345 (Or.inr (slot_ne (Or.inl (w44 hw)) (Or.inl (w31 hw)) (by decide) (t := .int) (t' := .byte) (by decide) (by decide)))
              have f351 := f321.other R345 (Or.inr (slot_ne (Or.inl (w48 hw)) (Or.inl (w31 hw)) (by decide) (t := .int) (t' := .byte) (by decide) (by decide)))
              have f352 := f322.other R345 (Or.inr (slot_ne (Or.inl (w29 hw)) (Or.inl (w31 hw)) (by decide) (t := .int) (t' := .byte) (by decide) (by decide)))
              have f353 := f323.other R345 (Or.inr (slot_ne (Or.inl (w46 hw)) (Or.inl (w31 hw)) (by decide) (t := .int) (t' := .byte) (by decide) (by decide)))
              have f354 := f324.same R345
              have f355 := f325.other R345 (Ne.symm ne0)
              have f356 := f326.other R345 (Ne.symm ne1)
              have f357 := f327.other R345 (Ne.symm ne2)
              have k358 := k328.wr R345 (Or.inl (by simp))
              have z359 := Nat.le_trans z329 (Keep.of_wr R345).1
              exact go_retV W345 rfl d6_196 (nb rfl) (nb rfl) (by
                  have e : own_step t ch = ((t.1 + (1 : Int32)), (1 : Int32), (0 : Int32)) := by simp [own_step, own_low13, own_low10, c70_231, c90_232, c108_233, c120_234, c127_236, h13]
                  rw [e]
                  exact ⟨rfl, k358, f346, f347, f348, f349, f350, f351, f352, f353, f354, f355.congr (fun j _ => by simp only [own_upd]; split <;> rfl), f356.congr (fun j _ => by simp only [own_upd]; split <;> rfl), f357.congr (fun j _ => by simp only [own_upd]; split <;> first | rfl | exact congrArg Value.int hB)⟩)
      · exact absurd c108_233 (by decide)
    · -- pc 90 not taken
      refine go_iloadN (pc' := 94) W216 d6_93 rfl rfl ?_
      refine go_i2c (pc' := 95) W216 d6_94 rfl ?_
      refine go_callS (kc := K8) (argsL := [(.int (ch.toUInt32.toUInt16.toUInt32.toInt32))]) (rest := []) (pc' := 98) W216 (w53 hw) (w54 hw) (w55 hw) (w56 hw) (rm8 E.l Z a0 hw (ch.toUInt32.toUInt16.toUInt32.toInt32) h216 n0 z230) (by decide) pd1 rfl rfl rfl (nb rfl) (nb rfl) (nb rfl) (nb rfl) d6_95 rfl ?_
      rintro _ T360 h360 ⟨rfl, q360⟩ W360
      replace W360 := W360.sub q360
      show Go E _ (Fm E T360 98 #[.val (.ref a), .val (.int ch), .val (.int (0 : Int32)), .unset] [(.int (own_lowS (ch.toUInt32.toUInt16.toUInt32.toInt32)))])
      refine go_if_eq (pt := 105) (pf := 101) W360 d6_98 (by decide) rfl rfl (fun c98_361 => ?_) (fun c98_361 => ?_)
      · -- pc 98 taken
        refine go_iconst (pc' := 106) (z := 0) W360 d6_105 rfl rfl ?_
        refine go_istoreN (pc' := 107) (l' := #[.val (.ref a), .val (.int ch), .val (.int (0 : Int32)), .val (.int (0 : Int32))]) W360 d6_106 rfl rfl ?_
        refine go_iloadN (pc' := 108) W360 d6_107 rfl rfl ?_
        refine go_if_eq (pt := 119) (pf := 111) W360 d6_108 (by decide) rfl rfl (fun c108_362 => ?_) (fun c108_362 => ?_)
        · -- pc 108 taken
          refine go_iloadN (pc' := 120) W360 d6_119 rfl rfl ?_
          refine go_if_ne (pt := 196) (pf := 123) W360 d6_120 (by decide) rfl rfl (fun c120_363 => ?_) (fun c120_363 => ?_)
          · exact absurd c120_363 (by decide)
          · -- pc 120 not taken
            refine go_aloadN (pc' := 124) W360 d6_123 rfl rfl rfl ?_
            refine go_getF (pc' := 127) W360 (host := "") (Or.inl (w30 hw)) Via.refl f225 d6_124 rfl ?_
            intro T364 W364
            refine go_if_eq (pt := 145) (pf := 130) W364 d6_127 (by decide) rfl rfl (fun c127_365 => ?_) (fun c127_365 => ?_)
            · -- pc 127 taken
              refine go_aloadN (pc' := 146) W364 d6_145 rfl rfl rfl ?_
              refine go_dup (pc' := 147) W364 d6_146 rfl rfl ?_
              refine go_getF (pc' := 150) W364 (host := "") (Or.inl (w45 hw)) Via.refl f224 d6_147 rfl ?_
              intro T366 W366
              refine go_iconst (pc' := 151) (z := 1) W366 d6_150 rfl rfl ?_
              refine go_iadd (pc' := 152) W366 d6_151 rfl ?_
              refine go_putF (pc' := 155) W366 (host := "") (Or.inl (w45 hw)) Via.refl f224 f217 (Or.inl (w46 hw)) (w12 hw) (ty := .int) (by decide) rfl rfl ge0 d6_152 rfl ?_
              intro T367 h367 W367 R367
              have f368 := f217.wr R367
              have f369 := f218.other R367 (Or.inr (slot_ne (Or.inr (w22 hw)) (Or.inl (w46 hw)) (by decide) (t := (.array .int)) (t' := .int) (by decide) (by decide)))
              have f370 := f219.other R367 (Or.inr (slot_ne (Or.inr (w24 hw)) (Or.inl (w46 hw)) (by decide) (t := (.array .int)) (t' := .int) (by decide) (by decide)))
              have f371 := f220.other R367 (Or.inr (slot_ne (Or.inr (w27 hw)) (Or.inl (w46 hw)) (by decide) (t := (.array .byte)) (t' := .int) (by decide) (by decide)))
              have f372 := f221.other R367 (Or.inr (slot_ne (Or.inl (w44 hw)) (Or.inl (w46 hw)) (by decide) (t := .int) (t' := .int) (by decide) (by decide)))
              have f373 := f222.other R367 (Or.inr (slot_ne (Or.inl (w48 hw)) (Or.inl (w46 hw)) (by decide) (t := .int) (t' := .int) (by decide) (by decide)))
              have f374 := f223.other R367 (Or.inr (slot_ne (Or.inl (w29 hw)) (Or.inl (w46 hw)) (by decide) (t := .int) (t' := .int) (by decide) (by decide)))
              have f375 := f224.same R367
              have f376 := f225.other R367 (Or.inr (slot_ne (Or.inl (w31 hw)) (Or.inl (w46 hw)) (by decide) (t := .byte) (t' := .int) (by decide) (by decide)))
              have f377 := f226.other R367 (Ne.symm ne0)
              have f378 := f227.other R367 (Ne.symm ne1)
              have f379 := f228.other R367 (Ne.symm ne2)
              have k380 := k229.wr R367 (Or.inl (by simp))
              have z381 := Nat.le_trans z230 (Keep.of_wr R367).1
              refine go_aloadN (pc' := 156) W367 d6_155 rfl rfl rfl ?_
              refine go_iloadN (pc' := 157) W367 d6_156 rfl rfl ?_
              by_cases h13 : ch = 13
              · refine go_lsw (pc' := 188) W367 d6_157 (by intro a b c d h; simp at h; omega) (by rw [own_sw, if_neg c70_231, if_pos h13]; decide) (by rw [own_sw, if_neg c70_231, if_pos h13]; decide) ?_
                refine go_iconst (pc' := 189) (z := 2) W367 d6_188 rfl rfl ?_
                refine go_goto (pc' := 193) W367 d6_189 (by decide) rfl ?_
                refine go_putF (pc' := 196) W367 (host := "") (Or.inl (w30 hw)) Via.refl f376 f368 (Or.inl (w31 hw)) (w12 hw) (ty := .byte) (by decide) rfl rfl ge0 d6_193 rfl ?_
                intro T382 h382 W382 R382
                have f383 := f368.wr R382
                have f384 := f369.other R382 (Or.inr (slot_ne (Or.inr (w22 hw)) (Or.inl (w31 hw)) (by decide) (t := (.array .int)) (t' := .byte) (by decide) (by decide)))
                have f385 := f370.other R382 (Or.inr (slot_ne (Or.inr (w24 hw)) (Or.inl (w31 hw)) (by decide) (t := (.array .int)) (t' := .byte) (by decide) (by decide)))
                have f386 := f371.other R382 (Or.inr (slot_ne (Or.inr (w27 hw)) (Or.inl (w31 hw)) (by decide) (t := (.array .byte)) (t' := .byte) (by decide) (by decide)))
                have f387 := f372.other R382 (Or.inr (slot_ne (Or.inl (w44 hw)) (Or.inl (w31 hw)) (by decide) (t := .int) (t' := .byte) (by decide) (by decide)))
                have f388 := f373.other R382 (Or.inr (slot_ne (Or.inl (w48 hw)) (Or.inl (w31 hw)) (by decide) (t := .int) (t' := .byte) (by decide) (by decide)))
                have f389 := f374.other R382 (Or.inr (slot_ne (Or.inl (w29 hw)) (Or.inl (w31 hw)) (by decide) (t := .int) (t' := .byte) (by decide) (by decide)))
                have f390 := f375.other R382 (Or.inr (slot_ne (Or.inl (w46 hw)) (Or.inl (w31 hw)) (by decide) (t := .int) (t' := .byte) (by decide) (by decide)))
                have f391 := f376.same R382
                have f392 := f377.other R382 (Ne.symm ne0)
                have f393 := f378.other R382 (Ne.symm ne1)
                have f394 := f379.other R382 (Ne.symm ne2)
                have k395 := k380.wr R382 (Or.inl (by simp))
                have z396 := Nat.le_trans z381 (Keep.of_wr R382).1
                exact go_retV W382 rfl d6_196 (nb rfl) (nb rfl) (by
                    have e : own_step t ch = (t.1, (t.2.1 + (1 : Int32)), (2 : Int32)) := by simp [own_step, own_low13, own_low10, c70_231, c90_232, c98_361, c108_362, c120_363, c127_365, h13]
                    rw [e]
                    exact ⟨rfl, k395, f383, f384, f385, f386, f387, f388, f389, f390, f391, f392.congr (fun j _ => by simp only [own_upd]; split <;> rfl), f393.congr (fun j _ => by simp only [own_upd]; split <;> rfl), f394.congr (fun j _ => by simp only [own_upd]; split <;> first | rfl | exact congrArg Value.int hB)⟩)
              · refine go_lsw (pc' := 192) W367 d6_157 (by intro a b c d h; simp at h; omega) (by rw [own_sw, if_neg c70_231, if_neg h13]; decide) (by rw [own_sw, if_neg c70_231, if_neg h13]; decide) ?_
                refine go_iconst (pc' := 193) (z := 0) W367 d6_192 rfl rfl ?_
                refine go_putF (pc' := 196) W367 (host := "") (Or.inl (w30 hw)) Via.refl f376 f368 (Or.inl (w31 hw)) (w12 hw) (ty := .byte) (by decide) rfl rfl ge0 d6_193 rfl ?_
                intro T397 h397 W397 R397
                have f398 := f368.wr R397
                have f399 := f369.other R397 (Or.inr (slot_ne (Or.inr (w22 hw)) (Or.inl (w31 hw)) (by decide) (t := (.array .int)) (t' := .byte) (by decide) (by decide)))
                have f400 := f370.other R397 (Or.inr (slot_ne (Or.inr (w24 hw)) (Or.inl (w31 hw)) (by decide) (t := (.array .int)) (t' := .byte) (by decide) (by decide)))
                have f401 := f371.other R397 (Or.inr (slot_ne (Or.inr (w27 hw)) (Or.inl (w31 hw)) (by decide) (t := (.array .byte)) (t' := .byte) (by decide) (by decide)))
                have f402 := f372.other R397 (Or.inr (slot_ne (Or.inl (w44 hw)) (Or.inl (w31 hw)) (by decide) (t := .int) (t' := .byte) (by decide) (by decide)))
                have f403 := f373.other R397 (Or.inr (slot_ne (Or.inl (w48 hw)) (Or.inl (w31 hw)) (by decide) (t := .int) (t' := .byte) (by decide) (by decide)))
                have f404 := f374.other R397 (Or.inr (slot_ne (Or.inl (w29 hw)) (Or.inl (w31 hw)) (by decide) (t := .int) (t' := .byte) (by decide) (by decide)))
                have f405 := f375.other R397 (Or.inr (slot_ne (Or.inl (w46 hw)) (Or.inl (w31 hw)) (by decide) (t := .int) (t' := .byte) (by decide) (by decide)))
                have f406 := f376.same R397
                have f407 := f377.other R397 (Ne.symm ne0)
                have f408 := f378.other R397 (Ne.symm ne1)
                have f409 := f379.other R397 (Ne.symm ne2)
                have k410 := k380.wr R397 (Or.inl (by simp))
                have z411 := Nat.le_trans z381 (Keep.of_wr R397).1
                exact go_retV W397 rfl d6_196 (nb rfl) (nb rfl) (by
                    have e : own_step t ch = (t.1, (t.2.1 + (1 : Int32)), (0 : Int32)) := by simp [own_step, own_low13, own_low10, c70_231, c90_232, c98_361, c108_362, c120_363, c127_365, h13]
                    rw [e]
                    exact ⟨rfl, k410, f398, f399, f400, f401, f402, f403, f404, f405, f406, f407.congr (fun j _ => by simp only [own_upd]; split <;> rfl), f408.congr (fun j _ => by simp only [own_upd]; split <;> rfl), f409.congr (fun j _ => by simp only [own_upd]; split <;> first | rfl | exact congrArg Value.int hB)⟩)
            · -- pc 127 not taken
              refine go_aloadN (pc' := 131) W364 d6_130 rfl rfl rfl ?_
              refine go_dup (pc' := 132) W364 d6_131 rfl rfl ?_
              refine go_getF (pc' := 135) W364 (host := "") (Or.inl (w28 hw)) Via.refl f223 d6_132 rfl ?_
              intro T412 W412
              refine go_iconst (pc' := 136) (z := 1) W412 d6_135 rfl rfl ?_
              refine go_iadd (pc' := 137) W412 d6_136 rfl ?_
              refine go_putF (pc' := 140) W412 (host := "") (Or.inl (w28 hw)) Via.refl f223 f217 (Or.inl (w29 hw)) (w12 hw) (ty := .int) (by decide) rfl rfl ge0 d6_137 rfl ?_
              intro T413 h413 W413 R413
              have f414 := f217.wr R413
              have f415 := f218.other R413 (Or.inr (slot_ne (Or.inr (w22 hw)) (Or.inl (w29 hw)) (by decide) (t := (.array .int)) (t' := .int) (by decide) (by decide)))
              have f416 := f219.other R413 (Or.inr (slot_ne (Or.inr (w24 hw)) (Or.inl (w29 hw)) (by decide) (t := (.array .int)) (t' := .int) (by decide) (by decide)))
              have f417 := f220.other R413 (Or.inr (slot_ne (Or.inr (w27 hw)) (Or.inl (w29 hw)) (by decide) (t := (.array .byte)) (t' := .int) (by decide) (by decide)))
              have f418 := f221.other R413 (Or.inr (slot_ne (Or.inl (w44 hw)) (Or.inl (w29 hw)) (by decide) (t := .int) (t' := .int) (by decide) (by decide)))
              have f419 := f222.other R413 (Or.inr (slot_ne (Or.inl (w48 hw)) (Or.inl (w29 hw)) (by decide) (t := .int) (t' := .int) (by decide) (by decide)))
              have f420 := f223.same R413
              have f421 := f224.other R413 (Or.inr (slot_ne (Or.inl (w46 hw)) (Or.inl (w29 hw)) (by decide) (t := .int) (t' := .int) (by decide) (by decide)))
              have f422 := f225.other R413 (Or.inr (slot_ne (Or.inl (w31 hw)) (Or.inl (w29 hw)) (by decide) (t := .byte) (t' := .int) (by decide) (by decide)))
              have f423 := f226.other R413 (Ne.symm ne0)
              have f424 := f227.other R413 (Ne.symm ne1)
              have f425 := f228.other R413 (Ne.symm ne2)
              have k426 := k229.wr R413 (Or.inl (by simp))
              have z427 := Nat.le_trans z230 (Keep.of_wr R413).1
              refine go_aloadN (pc' := 141) W413 d6_140 rfl rfl rfl ?_
              refine go_iconst (pc' := 142) (z := 0) W413 d6_141 rfl rfl ?_
              refine go_putF (pc' := 145) W413 (host := "") (Or.inl (w45 hw)) Via.refl f421 f414 (Or.inl (w46 hw)) (w12 hw) (ty := .int) (by decide) rfl rfl ge0 d6_142 rfl ?_
              intro T428 h428 W428 R428
              have f429 := f414.wr R428
              have f430 := f415.other R428 (Or.inr (slot_ne (Or.inr (w22 hw)) (Or.inl (w46 hw)) (by decide) (t := (.array .int)) (t' := .int) (by decide) (by decide)))
              have f431 := f416.other R428 (Or.inr (slot_ne (Or.inr (w24 hw)) (Or.inl (w46 hw)) (by decide) (t := (.array .int)) (t' := .int) (by decide) (by decide)))
              have f432 := f417.other R428 (Or.inr (slot_ne (Or.inr (w27 hw)) (Or.inl (w46 hw)) (by decide) (t := (.array .byte)) (t' := .int) (by decide) (by decide)))
              have f433 := f418.other R428 (Or.inr (slot_ne (Or.inl (w44 hw)) (Or.inl (w46 hw)) (by decide) (t := .int) (t' := .int) (by decide) (by decide)))
              have f434 := f419.other R428 (Or.inr (slot_ne (Or.inl (w48 hw)) (Or.inl (w46 hw)) (by decide) (t := .int) (t' := .int) (by decide) (by decide)))
              have f435 := f420.other R428 (Or.inr (slot_ne (Or.inl (w29 hw)) (Or.inl (w46 hw)) (by decide) (t := .int) (t' := .int) (by decide) (by decide)))
              have f436 := f421.same R428
              have f437 := f422.other R428 (Or.inr (slot_ne (Or.inl (w31 hw)) (Or.inl (w46 hw)) (by decide) (t := .byte) (t' := .int) (by decide) (by decide)))
              have f438 := f423.other R428 (Ne.symm ne0)
              have f439 := f424.other R428 (Ne.symm ne1)
              have f440 := f425.other R428 (Ne.symm ne2)
              have k441 := k426.wr R428 (Or.inl (by simp))
              have z442 := Nat.le_trans z427 (Keep.of_wr R428).1
              refine go_aloadN (pc' := 146) W428 d6_145 rfl rfl rfl ?_
              refine go_dup (pc' := 147) W428 d6_146 rfl rfl ?_
              refine go_getF (pc' := 150) W428 (host := "") (Or.inl (w45 hw)) Via.refl f436 d6_147 rfl ?_
              intro T443 W443
              refine go_iconst (pc' := 151) (z := 1) W443 d6_150 rfl rfl ?_
              refine go_iaddZ (pc' := 152) (z := 1) W443 d6_151 (by decide) rfl ?_
              refine go_putF (pc' := 155) W443 (host := "") (Or.inl (w45 hw)) Via.refl f436 f429 (Or.inl (w46 hw)) (w12 hw) (ty := .int) (by decide) rfl rfl ge0 d6_152 rfl ?_
              intro T444 h444 W444 R444
              have f445 := f429.wr R444
              have f446 := f430.other R444 (Or.inr (slot_ne (Or.inr (w22 hw)) (Or.inl (w46 hw)) (by decide) (t := (.array .int)) (t' := .int) (by decide) (by decide)))
              have f447 := f431.other R444 (Or.inr (slot_ne (Or.inr (w24 hw)) (Or.inl (w46 hw)) (by decide) (t := (.array .int)) (t' := .int) (by decide) (by decide)))
              have f448 := f432.other R444 (Or.inr (slot_ne (Or.inr (w27 hw)) (Or.inl (w46 hw)) (by decide) (t := (.array .byte)) (t' := .int) (by decide) (by decide)))
              have f449 := f433.other R444 (Or.inr (slot_ne (Or.inl (w44 hw)) (Or.inl (w46 hw)) (by decide) (t := .int) (t' := .int) (by decide) (by decide)))
              have f450 := f434.other R444 (Or.inr (slot_ne (Or.inl (w48 hw)) (Or.inl (w46 hw)) (by decide) (t := .int) (t' := .int) (by decide) (by decide)))
              have f451 := f435.other R444 (Or.inr (slot_ne (Or.inl (w29 hw)) (Or.inl (w46 hw)) (by decide) (t := .int) (t' := .int) (by decide) (by decide)))
              have f452 := f436.same R444
              have f453 := f437.other R444 (Or.inr (slot_ne (Or.inl (w31 hw)) (Or.inl (w46 hw)) (by decide) (t := .byte) (t' := .int) (by decide) (by decide)))
              have f454 := f438.other R444 (Ne.symm ne0)
              have f455 := f439.other R444 (Ne.symm ne1)
              have f456 := f440.other R444 (Ne.symm ne2)
              have k457 := k441.wr R444 (Or.inl (by simp))
              have z458 := Nat.le_trans z442 (Keep.of_wr R444).1
              refine go_aloadN (pc' := 156) W444 d6_155 rfl rfl rfl ?_
              refine go_iloadN (pc' := 157) W444 d6_156 rfl rfl ?_
              by_cases h13 : ch = 13
              · refine go_lsw (pc' := 188) W444 d6_157 (by intro a b c d h; simp at h; omega) (by rw [own_sw, if_neg c70_231, if_pos h13]; decide) (by rw [own_sw, if_neg c70_231, if_pos h13]; decide) ?_
                refine go_iconst (pc' := 189) (z := 2) W444 d6_188 rfl rfl ?_
                refine go_goto (pc' := 193) W444 d6_189 (by decide) rfl ?_
                refine go_putF (pc' := 196) W444 (host := "") (Or.inl (w30 hw)) Via.refl f453 f445 (Or.inl (w31 hw)) (w12 hw) (ty := .byte) (by decide) rfl rfl ge0 d6_193 rfl ?_
                intro T459 h459 W459 R459
                have f460 := f445.wr R459
                have f461 := f446.other R459 (Or.inr (slot_ne (Or.inr (w22 hw)) (Or.inl (w31 hw)) (by decide) (t := (.array .int)) (t' := .byte) (by decide) (by decide)))
                have f462 := f447.other R459 (Or.inr (slot_ne (Or.inr (w24 hw)) (Or.inl (w31 hw)) (by decide) (t := (.array .int)) (t' := .byte) (by decide) (by decide)))
                have f463 := f448.other R459 (Or.inr (slot_ne (Or.inr (w27 hw)) (Or.inl (w31 hw)) (by decide) (t := (.array .byte)) (t' := .byte) (by decide) (by decide)))
                have f464 := f449.other R459 (Or.inr (slot_ne (Or.inl (w44 hw)) (Or.inl (w31 hw)) (by decide) (t := .int) (t' := .byte) (by decide) (by decide)))
                have f465 := f450.other R459 (Or.inr (slot_ne (Or.inl (w48 hw)) (Or.inl (w31 hw)) (by decide) (t := .int) (t' := .byte) (by decide) (by decide)))
                have f466 := f451.other R459 (Or.inr (slot_ne (Or.inl (w29 hw)) (Or.inl (w31 hw)) (by decide) (t := .int) (t' := .byte) (by decide) (by decide)))
                have f467 := f452.other R459 (Or.inr (slot_ne (Or.inl (w46 hw)) (Or.inl (w31 hw)) (by decide) (t := .int) (t' := .byte) (by decide) (by decide)))
                have f468 := f453.same R459
                have f469 := f454.other R459 (Ne.symm ne0)
                have f470 := f455.other R459 (Ne.symm ne1)
                have f471 := f456.other R459 (Ne.symm ne2)
                have k472 := k457.wr R459 (Or.inl (by simp))
                have z473 := Nat.le_trans z458 (Keep.of_wr R459).1
                exact go_retV W459 rfl d6_196 (nb rfl) (nb rfl) (by
                    have e : own_step t ch = ((t.1 + (1 : Int32)), (1 : Int32), (2 : Int32)) := by simp [own_step, own_low13, own_low10, c70_231, c90_232, c98_361, c108_362, c120_363, c127_365, h13]
                    rw [e]
                    exact ⟨rfl, k472, f460, f461, f462, f463, f464, f465, f466, f467, f468, f469.congr (fun j _ => by simp only [own_upd]; split <;> rfl), f470.congr (fun j _ => by simp only [own_upd]; split <;> rfl), f471.congr (fun j _ => by simp only [own_upd]; split <;> first | rfl | exact congrArg Value.int hB)⟩)
              · refine go_lsw (pc' := 192) W444 d6_157 (by intro a b c d h; simp at h; omega) (by rw [own_sw, if_neg c70_231, if_neg h13]; decide) (by rw [own_sw, if_neg c70_231, if_neg h13]; decide) ?_
                refine go_iconst (pc' := 193) (z := 0) W444 d6_192 rfl rfl ?_
                refine go_putF (pc' := 196) W444 (host := "") (Or.inl (w30 hw)) Via.refl f453 f445 (Or.inl (w31 hw)) (w12 hw) (ty := .byte) (by decide) rfl rfl ge0 d6_193 rfl ?_
                intro T474 h474 W474 R474
                have f475 := f445.wr R474
                have f476 := f446.other R474 (Or.inr (slot_ne (Or.inr (w22 hw)) (Or.inl (w31 hw)) (by decide) (t := (.array .int)) (t' := .byte) (by decide) (by decide)))
                have f477 := f447.other R474 (Or.inr (slot_ne (Or.inr (w24 hw)) (Or.inl (w31 hw)) (by decide) (t := (.array .int)) (t' := .byte) (by decide) (by decide)))
                have f478 := f448.other R474 (Or.inr (slot_ne (Or.inr (w27 hw)) (Or.inl (w31 hw)) (by decide) (t := (.array .byte)) (t' := .byte) (by decide) (by decide)))
                have f479 := f449.other R474 (Or.inr (slot_ne (Or.inl (w44 hw)) (Or.inl (w31 hw)) (by decide) (t := .int) (t' := .byte) (by decide) (by decide)))
                have f480 := f450.other R474 (Or.inr (slot_ne (Or.inl (w48 hw)) (Or.inl (w31 hw)) (by decide) (t := .int) (t' := .byte) (by decide) (by decide)))
                have f481 := f451.other R474 (Or.inr (slot_ne (Or.inl (w29 hw)) (Or.inl (w31 hw)) (by decide) (t := .int) (t' := .byte) (by decide) (by decide)))
                have f482 := f452.other R474 (Or.inr (slot_ne (Or.inl (w46 hw)) (Or.inl (w31 hw)) (by decide) (t := .int) (t' := .byte) (by decide) (by decide)))
                have f483 := f453.same R474
                have f484 := f454.other R474 (Ne.symm ne0)
                have f485 := f455.other R474 (Ne.symm ne1)
                have f486 := f456.other R474 (Ne.symm ne2)
                have k487 := k457.wr R474 (Or.inl (by simp))
                have z488 := Nat.le_trans z458 (Keep.of_wr R474).1
                exact go_retV W474 rfl d6_196 (nb rfl) (nb rfl) (by
                    have e : own_step t ch = ((t.1 + (1 : Int32)), (1 : Int32), (0 : Int32)) := by simp [own_step, own_low13, own_low10, c70_231, c90_232, c98_361, c108_362, c120_363, c127_365, h13]
                    rw [e]
                    exact ⟨rfl, k487, f475, f476, f477, f478, f479, f480, f481, f482, f483, f484.congr (fun j _ => by simp only [own_upd]; split <;> rfl), f485.congr (fun j _ => by simp only [own_upd]; split <;> rfl), f486.congr (fun j _ => by simp only [own_upd]; split <;> first | rfl | exact congrArg Value.int hB)⟩)
        · exact absurd c108_362 (by decide)
      · -- pc 98 not taken
        refine go_iconst (pc' := 102) (z := 1) W360 d6_101 rfl rfl ?_
        refine go_goto (pc' := 106) W360 d6_102 (by decide) rfl ?_
        refine go_istoreN (pc' := 107) (l' := #[.val (.ref a), .val (.int ch), .val (.int (0 : Int32)), .val (.int (1 : Int32))]) W360 d6_106 rfl rfl ?_
        refine go_iloadN (pc' := 108) W360 d6_107 rfl rfl ?_
        refine go_if_eq (pt := 119) (pf := 111) W360 d6_108 (by decide) rfl rfl (fun c108_489 => ?_) (fun c108_489 => ?_)
        · -- pc 108 taken
          refine go_iloadN (pc' := 120) W360 d6_119 rfl rfl ?_
          refine go_if_ne (pt := 196) (pf := 123) W360 d6_120 (by decide) rfl rfl (fun c120_490 => ?_) (fun c120_490 => ?_)
          · -- pc 120 taken
            exact go_retV W360 rfl d6_196 (nb rfl) (nb rfl) (by
                have e : own_step t ch = (t.1, t.2.1, t.2.2) := by simp [own_step, own_low13, own_low10, c70_231, c90_232, c98_361, c108_489, c120_490]
                rw [e]
                exact ⟨rfl, k229, f217, f218, f219, f220, f221, f222, f223, f224, f225, f226.congr (fun j _ => by simp only [own_upd]; split <;> rfl), f227.congr (fun j _ => by simp only [own_upd]; split <;> rfl), f228.congr (fun j _ => by simp only [own_upd]; split <;> first | rfl | exact congrArg Value.int hB)⟩)
          · exact absurd c120_490 (by decide)
        · exact absurd c108_489 (by decide)
  · -- pc 70 not taken
    refine go_aloadN (pc' := 74) W216 d6_73 rfl rfl rfl ?_
    refine go_getF (pc' := 77) W216 (host := "") (Or.inl (w30 hw)) Via.refl f225 d6_74 rfl ?_
    intro T491 W491
    refine go_iconst (pc' := 78) (z := 2) W491 d6_77 rfl rfl ?_
    refine go_icmp_ne (pt := 85) (pf := 81) W491 d6_78 (by decide) rfl rfl (fun c78_492 => ?_) (fun c78_492 => ?_)
    · -- pc 78 taken
      refine go_iconst (pc' := 86) (z := 0) W491 d6_85 rfl rfl ?_
      refine go_istoreN (pc' := 87) (l' := #[.val (.ref a), .val (.int ch), .val (.int (0 : Int32)), .unset]) W491 d6_86 rfl rfl ?_
      refine go_iloadN (pc' := 88) W491 d6_87 rfl rfl ?_
      refine go_ldcInt (pc' := 90) W491 (w52 hw) d6_88 rfl ?_
      refine go_icmp_gt (pt := 105) (pf := 93) W491 d6_90 (by decide) rfl rfl (fun c90_493 => ?_) (fun c90_493 => ?_)
      · -- pc 90 taken
        refine go_iconst (pc' := 106) (z := 0) W491 d6_105 rfl rfl ?_
        refine go_istoreN (pc' := 107) (l' := #[.val (.ref a), .val (.int ch), .val (.int (0 : Int32)), .val (.int (0 : Int32))]) W491 d6_106 rfl rfl ?_
        refine go_iloadN (pc' := 108) W491 d6_107 rfl rfl ?_
        refine go_if_eq (pt := 119) (pf := 111) W491 d6_108 (by decide) rfl rfl (fun c108_494 => ?_) (fun c108_494 => ?_)
        · -- pc 108 taken
          refine go_iloadN (pc' := 120) W491 d6_119 rfl rfl ?_
          refine go_if_ne (pt := 196) (pf := 123) W491 d6_120 (by decide) rfl rfl (fun c120_495 => ?_) (fun c120_495 => ?_)
          · exact absurd c120_495 (by decide)
          · -- pc 120 not taken
            refine go_aloadN (pc' := 124) W491 d6_123 rfl rfl rfl ?_
            refine go_getF (pc' := 127) W491 (host := "") (Or.inl (w30 hw)) Via.refl f225 d6_124 rfl ?_
            intro T496 W496
            refine go_if_eq (pt := 145) (pf := 130) W496 d6_127 (by decide) rfl rfl (fun c127_497 => ?_) (fun c127_497 => ?_)
            · -- pc 127 taken
              refine go_aloadN (pc' := 146) W496 d6_145 rfl rfl rfl ?_
              refine go_dup (pc' := 147) W496 d6_146 rfl rfl ?_
              refine go_getF (pc' := 150) W496 (host := "") (Or.inl (w45 hw)) Via.refl f224 d6_147 rfl ?_
              intro T498 W498
              refine go_iconst (pc' := 151) (z := 1) W498 d6_150 rfl rfl ?_
              refine go_iadd (pc' := 152) W498 d6_151 rfl ?_
              refine go_putF (pc' := 155) W498 (host := "") (Or.inl (w45 hw)) Via.refl f224 f217 (Or.inl (w46 hw)) (w12 hw) (ty := .int) (by decide) rfl rfl ge0 d6_152 rfl ?_
              intro T499 h499 W499 R499
              have f500 := f217.wr R499
              have f501 := f218.other R499 (Or.inr (slot_ne (Or.inr (w22 hw)) (Or.inl (w46 hw)) (by decide) (t := (.array .int)) (t' := .int) (by decide) (by decide)))
              have f502 := f219.other R499 (Or.inr (slot_ne (Or.inr (w24 hw)) (Or.inl (w46 hw)) (by decide) (t := (.array .int)) (t' := .int) (by decide) (by decide)))
              have f503 := f220.other R499 (Or.inr (slot_ne (Or.inr (w27 hw)) (Or.inl (w46 hw)) (by decide) (t := (.array .byte)) (t' := .int) (by decide) (by decide)))
              have f504 := f221.other R499 (Or.inr (slot_ne (Or.inl (w44 hw)) (Or.inl (w46 hw)) (by decide) (t := .int) (t' := .int) (by decide) (by decide)))
              have f505 := f222.other R499 (Or.inr (slot_ne (Or.inl (w48 hw)) (Or.inl (w46 hw)) (by decide) (t := .int) (t' := .int) (by decide) (by decide)))
              have f506 := f223.other R499 (Or.inr (slot_ne (Or.inl (w29 hw)) (Or.inl (w46 hw)) (by decide) (t := .int) (t' := .int) (by decide) (by decide)))
              have f507 := f224.same R499
              have f508 := f225.other R499 (Or.inr (slot_ne (Or.inl (w31 hw)) (Or.inl (w46 hw)) (by decide) (t := .byte) (t' := .int) (by decide) (by decide)))
              have f509 := f226.other R499 (Ne.symm ne0)
              have f510 := f227.other R499 (Ne.symm ne1)
              have f511 := f228.other R499 (Ne.symm ne2)
              have k512 := k229.wr R499 (Or.inl (by simp))
              have z513 := Nat.le_trans z230 (Keep.of_wr R499).1
              refine go_aloadN (pc' := 156) W499 d6_155 rfl rfl rfl ?_
              refine go_iloadN (pc' := 157) W499 d6_156 rfl rfl ?_
              refine go_lsw (pc' := 184) W499 d6_157 (by intro a b c d h; simp at h; omega) (by rw [own_sw, if_pos c70_231]; decide) (by rw [own_sw, if_pos c70_231]; decide) ?_
              refine go_iconst (pc' := 185) (z := 1) W499 d6_184 rfl rfl ?_
              refine go_goto (pc' := 193) W499 d6_185 (by decide) rfl ?_
              refine go_putF (pc' := 196) W499 (host := "") (Or.inl (w30 hw)) Via.refl f508 f500 (Or.inl (w31 hw)) (w12 hw) (ty := .byte) (by decide) rfl rfl ge0 d6_193 rfl ?_
              intro T514 h514 W514 R514
              have f515 := f500.wr R514
              have f516 := f501.other R514 (Or.inr (slot_ne (Or.inr (w22 hw)) (Or.inl (w31 hw)) (by decide) (t := (.array .int)) (t' := .byte) (by decide) (by decide)))
              have f517 := f502.other R514 (Or.inr (slot_ne (Or.inr (w24 hw)) (Or.inl (w31 hw)) (by decide) (t := (.array .int)) (t' := .byte) (by decide) (by decide)))
              have f518 := f503.other R514 (Or.inr (slot_ne (Or.inr (w27 hw)) (Or.inl (w31 hw)) (by decide) (t := (.array .byte)) (t' := .byte) (by decide) (by decide)))
              have f519 := f504.other R514 (Or.inr (slot_ne (Or.inl (w44 hw)) (Or.inl (w31 hw)) (by decide) (t := .int) (t' := .byte) (by decide) (by decide)))
              have f520 := f505.other R514 (Or.inr (slot_ne (Or.inl (w48 hw)) (Or.inl (w31 hw)) (by decide) (t := .int) (t' := .byte) (by decide) (by decide)))
              have f521 := f506.other R514 (Or.inr (slot_ne (Or.inl (w29 hw)) (Or.inl (w31 hw)) (by decide) (t := .int) (t' := .byte) (by decide) (by decide)))
              have f522 := f507.other R514 (Or.inr (slot_ne (Or.inl (w46 hw)) (Or.inl (w31 hw)) (by decide) (t := .int) (t' := .byte) (by decide) (by decide)))
              have f523 := f508.same R514
              have f524 := f509.other R514 (Ne.symm ne0)
              have f525 := f510.other R514 (Ne.symm ne1)
              have f526 := f511.other R514 (Ne.symm ne2)
              have k527 := k512.wr R514 (Or.inl (by simp))
              have z528 := Nat.le_trans z513 (Keep.of_wr R514).1
              exact go_retV W514 rfl d6_196 (nb rfl) (nb rfl) (by
                  have e : own_step t ch = (t.1, (t.2.1 + (1 : Int32)), (1 : Int32)) := by simp [own_step, own_low13, own_low10, c70_231, c78_492, c90_493, c108_494, c120_495, c127_497]
                  rw [e]
                  exact ⟨rfl, k527, f515, f516, f517, f518, f519, f520, f521, f522, f523, f524.congr (fun j _ => by simp only [own_upd]; split <;> rfl), f525.congr (fun j _ => by simp only [own_upd]; split <;> rfl), f526.congr (fun j _ => by simp only [own_upd]; split <;> first | rfl | exact congrArg Value.int hB)⟩)
            · -- pc 127 not taken
              refine go_aloadN (pc' := 131) W496 d6_130 rfl rfl rfl ?_
              refine go_dup (pc' := 132) W496 d6_131 rfl rfl ?_
              refine go_getF (pc' := 135) W496 (host := "") (Or.inl (w28 hw)) Via.refl f223 d6_132 rfl ?_
              intro T529 W529
              refine go_iconst (pc' := 136) (z := 1) W529 d6_135 rfl rfl ?_
              refine go_iadd (pc' := 137) W529 d6_136 rfl ?_
              refine go_putF (pc' := 140) W529 (host := "") (Or.inl (w28 hw)) Via.refl f223 f217 (Or.inl (w29 hw)) (w12 hw) (ty := .int) (by decide) rfl rfl ge0 d6_137 rfl ?_
              intro T530 h530 W530 R530
              have f531 := f217.wr R530
              have f532 := f218.other R530 (Or.inr (slot_ne (Or.inr (w22 hw)) (Or.inl (w29 hw)) (by decide) (t := (.array .int)) (t' := .int) (by decide) (by decide)))
              have f533 := f219.other R530 (Or.inr (slot_ne (Or.inr (w24 hw)) (Or.inl (w29 hw)) (by decide) (t := (.array .int)) (t' := .int) (by decide) (by decide)))
              have f534 := f220.other R530 (Or.inr (slot_ne (Or.inr (w27 hw)) (Or.inl (w29 hw)) (by decide) (t := (.array .byte)) (t' := .int) (by decide) (by decide)))
              have f535 := f221.other R530 (Or.inr (slot_ne (Or.inl (w44 hw)) (Or.inl (w29 hw)) (by decide) (t := .int) (t' := .int) (by decide) (by decide)))
              have f536 := f222.other R530 (Or.inr (slot_ne (Or.inl (w48 hw)) (Or.inl (w29 hw)) (by decide) (t := .int) (t' := .int) (by decide) (by decide)))
              have f537 := f223.same R530
              have f538 := f224.other R530 (Or.inr (slot_ne (Or.inl (w46 hw)) (Or.inl (w29 hw)) (by decide) (t := .int) (t' := .int) (by decide) (by decide)))
              have f539 := f225.other R530 (Or.inr (slot_ne (Or.inl (w31 hw)) (Or.inl (w29 hw)) (by decide) (t := .byte) (t' := .int) (by decide) (by decide)))
              have f540 := f226.other R530 (Ne.symm ne0)
              have f541 := f227.other R530 (Ne.symm ne1)
              have f542 := f228.other R530 (Ne.symm ne2)
              have k543 := k229.wr R530 (Or.inl (by simp))
              have z544 := Nat.le_trans z230 (Keep.of_wr R530).1
              refine go_aloadN (pc' := 141) W530 d6_140 rfl rfl rfl ?_
              refine go_iconst (pc' := 142) (z := 0) W530 d6_141 rfl rfl ?_
              refine go_putF (pc' := 145) W530 (host := "") (Or.inl (w45 hw)) Via.refl f538 f531 (Or.inl (w46 hw)) (w12 hw) (ty := .int) (by decide) rfl rfl ge0 d6_142 rfl ?_
              intro T545 h545 W545 R545
              have f546 := f531.wr R545
              have f547 := f532.other R545 (Or.inr (slot_ne (Or.inr (w22 hw)) (Or.inl (w46 hw)) (by decide) (t := (.array .int)) (t' := .int) (by decide) (by decide)))
              have f548 := f533.other R545 (Or.inr (slot_ne (Or.inr (w24 hw)) (Or.inl (w46 hw)) (by decide) (t := (.array .int)) (t' := .int) (by decide) (by decide)))
              have f549 := f534.other R545 (Or.inr (slot_ne (Or.inr (w27 hw)) (Or.inl (w46 hw)) (by decide) (t := (.array .byte)) (t' := .int) (by decide) (by decide)))
              have f550 := f535.other R545 (Or.inr (slot_ne (Or.inl (w44 hw)) (Or.inl (w46 hw)) (by decide) (t := .int) (t' := .int) (by decide) (by decide)))
              have f551 := f536.other R545 (Or.inr (slot_ne (Or.inl (w48 hw)) (Or.inl (w46 hw)) (by decide) (t := .int) (t' := .int) (by decide) (by decide)))
              have f552 := f537.other R545 (Or.inr (slot_ne (Or.inl (w29 hw)) (Or.inl (w46 hw)) (by decide) (t := .int) (t' := .int) (by decide) (by decide)))
              have f553 := f538.same R545
              have f554 := f539.other R545 (Or.inr (slot_ne (Or.inl (w31 hw)) (Or.inl (w46 hw)) (by decide) (t := .byte) (t' := .int) (by decide) (by decide)))
              have f555 := f540.other R545 (Ne.symm ne0)
              have f556 := f541.other R545 (Ne.symm ne1)
              have f557 := f542.other R545 (Ne.symm ne2)
              have k558 := k543.wr R545 (Or.inl (by simp))
              have z559 := Nat.le_trans z544 (Keep.of_wr R545).1
              refine go_aloadN (pc' := 146) W545 d6_145 rfl rfl rfl ?_
              refine go_dup (pc' := 147) W545 d6_146 rfl rfl ?_
              refine go_getF (pc' := 150) W545 (host := "") (Or.inl (w45 hw)) Via.refl f553 d6_147 rfl ?_
              intro T560 W560
              refine go_iconst (pc' := 151) (z := 1) W560 d6_150 rfl rfl ?_
              refine go_iaddZ (pc' := 152) (z := 1) W560 d6_151 (by decide) rfl ?_
              refine go_putF (pc' := 155) W560 (host := "") (Or.inl (w45 hw)) Via.refl f553 f546 (Or.inl (w46 hw)) (w12 hw) (ty := .int) (by decide) rfl rfl ge0 d6_152 rfl ?_
              intro T561 h561 W561 R561
              have f562 := f546.wr R561
              have f563 := f547.other R561 (Or.inr (slot_ne (Or.inr (w22 hw)) (Or.inl (w46 hw)) (by decide) (t := (.array .int)) (t' := .int) (by decide) (by decide)))
              have f564 := f548.other R561 (Or.inr (slot_ne (Or.inr (w24 hw)) (Or.inl (w46 hw)) (by decide) (t := (.array .int)) (t' := .int) (by decide) (by decide)))
              have f565 := f549.other R561 (Or.inr (slot_ne (Or.inr (w27 hw)) (Or.inl (w46 hw)) (by decide) (t := (.array .byte)) (t' := .int) (by decide) (by decide)))
              have f566 := f550.other R561 (Or.inr (slot_ne (Or.inl (w44 hw)) (Or.inl (w46 hw)) (by decide) (t := .int) (t' := .int) (by decide) (by decide)))
              have f567 := f551.other R561 (Or.inr (slot_ne (Or.inl (w48 hw)) (Or.inl (w46 hw)) (by decide) (t := .int) (t' := .int) (by decide) (by decide)))
              have f568 := f552.other R561 (Or.inr (slot_ne (Or.inl (w29 hw)) (Or.inl (w46 hw)) (by decide) (t := .int) (t' := .int) (by decide) (by decide)))
              have f569 := f553.same R561
              have f570 := f554.other R561 (Or.inr (slot_ne (Or.inl (w31 hw)) (Or.inl (w46 hw)) (by decide) (t := .byte) (t' := .int) (by decide) (by decide)))
              have f571 := f555.other R561 (Ne.symm ne0)
              have f572 := f556.other R561 (Ne.symm ne1)
              have f573 := f557.other R561 (Ne.symm ne2)
              have k574 := k558.wr R561 (Or.inl (by simp))
              have z575 := Nat.le_trans z559 (Keep.of_wr R561).1
              refine go_aloadN (pc' := 156) W561 d6_155 rfl rfl rfl ?_
              refine go_iloadN (pc' := 157) W561 d6_156 rfl rfl ?_
              refine go_lsw (pc' := 184) W561 d6_157 (by intro a b c d h; simp at h; omega) (by rw [own_sw, if_pos c70_231]; decide) (by rw [own_sw, if_pos c70_231]; decide) ?_
              refine go_iconst (pc' := 185) (z := 1) W561 d6_184 rfl rfl ?_
              refine go_goto (pc' := 193) W561 d6_185 (by decide) rfl ?_
              refine go_putF (pc' := 196) W561 (host := "") (Or.inl (w30 hw)) Via.refl f570 f562 (Or.inl (w31 hw)) (w12 hw) (ty := .byte) (by decide) rfl rfl ge0 d6_193 rfl ?_
              intro T576 h576 W576 R576
              have f577 := f562.wr R576
              have f578 := f563.other R576 (Or.inr (slot_ne (Or.inr (w22 hw)) (Or.inl (w31 hw)) (by decide) (t := (.array .int)) (t' := .byte) (by decide) (by decide)))
              have f579 := f564.other R576 (Or.inr (slot_ne (Or.inr (w24 hw)) (Or.inl (w31 hw)) (by decide) (t := (.array .int)) (t' := .byte) (by decide) (by decide)))
              have f580 := f565.other R576 (Or.inr (slot_ne (Or.inr (w27 hw)) (Or.inl (w31 hw)) (by decide) (t := (.array .byte)) (t' := .byte) (by decide) (by decide)))
              have f581 := f566.other R576 (Or.inr (slot_ne (Or.inl (w44 hw)) (Or.inl (w31 hw)) (by decide) (t := .int) (t' := .byte) (by decide) (by decide)))
              have f582 := f567.other R576 (Or.inr (slot_ne (Or.inl (w48 hw)) (Or.inl (w31 hw)) (by decide) (t := .int) (t' := .byte) (by decide) (by decide)))
              have f583 := f568.other R576 (Or.inr (slot_ne (Or.inl (w29 hw)) (Or.inl (w31 hw)) (by decide) (t := .int) (t' := .byte) (by decide) (by decide)))
              have f584 := f569.other R576 (Or.inr (slot_ne (Or.inl (w46 hw)) (Or.inl (w31 hw)) (by decide) (t := .int) (t' := .byte) (by decide) (by decide)))
              have f585 := f570.same R576
              have f586 := f571.other R576 (Ne.symm ne0)
              have f587 := f572.other R576 (Ne.symm ne1)
              have f588 := f573.other R576 (Ne.symm ne2)
              have k589 := k574.wr R576 (Or.inl (by simp))
              have z590 := Nat.le_trans z575 (Keep.of_wr R576).1
              exact go_retV W576 rfl d6_196 (nb rfl) (nb rfl) (by
                  have e : own_step t ch = ((t.1 + (1 : Int32)), (1 : Int32), (1 : Int32)) := by simp [own_step, own_low13, own_low10, c70_231, c78_492, c90_493, c108_494, c120_495, c127_497]
                  rw [e]
                  exact ⟨rfl, k589, f577, f578, f579, f580, f581, f582, f583, f584, f585, f586.congr (fun j _ => by simp only [own_upd]; split <;> rfl), f587.congr (fun j _ => by simp only [own_upd]; split <;> rfl), f588.congr (fun j _ => by simp only [own_upd]; split <;> first | rfl | exact congrArg Value.int hB)⟩)
        · exact absurd c108_494 (by decide)
      · -- pc 90 not taken
        refine go_iloadN (pc' := 94) W491 d6_93 rfl rfl ?_
        refine go_i2c (pc' := 95) W491 d6_94 rfl ?_
        refine go_callS (kc := K8) (argsL := [(.int (ch.toUInt32.toUInt16.toUInt32.toInt32))]) (rest := []) (pc' := 98) W491 (w53 hw) (w54 hw) (w55 hw) (w56 hw) (rm8 E.l Z a0 hw (ch.toUInt32.toUInt16.toUInt32.toInt32) h216 n0 z230) (by decide) pd1 rfl rfl rfl (nb rfl) (nb rfl) (nb rfl) (nb rfl) d6_95 rfl ?_
        rintro _ T591 h591 ⟨rfl, q591⟩ W591
        replace W591 := W591.sub q591
        show Go E _ (Fm E T591 98 #[.val (.ref a), .val (.int ch), .val (.int (0 : Int32)), .unset] [(.int (own_lowS (ch.toUInt32.toUInt16.toUInt32.toInt32)))])
        refine go_if_eq (pt := 105) (pf := 101) W591 d6_98 (by decide) rfl rfl (fun c98_592 => ?_) (fun c98_592 => ?_)
        · -- pc 98 taken
          refine go_iconst (pc' := 106) (z := 0) W591 d6_105 rfl rfl ?_
          refine go_istoreN (pc' := 107) (l' := #[.val (.ref a), .val (.int ch), .val (.int (0 : Int32)), .val (.int (0 : Int32))]) W591 d6_106 rfl rfl ?_
          refine go_iloadN (pc' := 108) W591 d6_107 rfl rfl ?_
          refine go_if_eq (pt := 119) (pf := 111) W591 d6_108 (by decide) rfl rfl (fun c108_593 => ?_) (fun c108_593 => ?_)
          · -- pc 108 taken
            refine go_iloadN (pc' := 120) W591 d6_119 rfl rfl ?_
            refine go_if_ne (pt := 196) (pf := 123) W591 d6_120 (by decide) rfl rfl (fun c120_594 => ?_) (fun c120_594 => ?_)
            · exact absurd c120_594 (by decide)
            · -- pc 120 not taken
              refine go_aloadN (pc' := 124) W591 d6_123 rfl rfl rfl ?_
              refine go_getF (pc' := 127) W591 (host := "") (Or.inl (w30 hw)) Via.refl f225 d6_124 rfl ?_
              intro T595 W595
              refine go_if_eq (pt := 145) (pf := 130) W595 d6_127 (by decide) rfl rfl (fun c127_596 => ?_) (fun c127_596 => ?_)
              · -- pc 127 taken
                refine go_aloadN (pc' := 146) W595 d6_145 rfl rfl rfl ?_
                refine go_dup (pc' := 147) W595 d6_146 rfl rfl ?_
                refine go_getF (pc' := 150) W595 (host := "") (Or.inl (w45 hw)) Via.refl f224 d6_147 rfl ?_
                intro T597 W597
                refine go_iconst (pc' := 151) (z := 1) W597 d6_150 rfl rfl ?_
                refine go_iadd (pc' := 152) W597 d6_151 rfl ?_
                refine go_putF (pc' := 155) W597 (host := "") (Or.inl (w45 hw)) Via.refl f224 f217 (Or.inl (w46 hw)) (w12 hw) (ty := .int) (by decide) rfl rfl ge0 d6_152 rfl ?_
                intro T598 h598 W598 R598
                have f599 := f217.wr R598
                have f600 := f218.other R598 (Or.inr (slot_ne (Or.inr (w22 hw)) (Or.inl (w46 hw)) (by decide) (t := (.array .int)) (t' := .int) (by decide) (by decide)))
                have f601 := f219.other R598 (Or.inr (slot_ne (Or.inr (w24 hw)) (Or.inl (w46 hw)) (by decide) (t := (.array .int)) (t' := .int) (by decide) (by decide)))
                have f602 := f220.other R598 (Or.inr (slot_ne (Or.inr (w27 hw)) (Or.inl (w46 hw)) (by decide) (t := (.array .byte)) (t' := .int) (by decide) (by decide)))
                have f603 := f221.other R598 (Or.inr (slot_ne (Or.inl (w44 hw)) (Or.inl (w46 hw)) (by decide) (t := .int) (t' := .int) (by decide) (by decide)))
                have f604 := f222.other R598 (Or.inr (slot_ne (Or.inl (w48 hw)) (Or.inl (w46 hw)) (by decide) (t := .int) (t' := .int) (by decide) (by decide)))
                have f605 := f223.other R598 (Or.inr (slot_ne (Or.inl (w29 hw)) (Or.inl (w46 hw)) (by decide) (t := .int) (t' := .int) (by decide) (by decide)))
                have f606 := f224.same R598
                have f607 := f225.other R598 (Or.inr (slot_ne (Or.inl (w31 hw)) (Or.inl (w46 hw)) (by decide) (t := .byte) (t' := .int) (by decide) (by decide)))
                have f608 := f226.other R598 (Ne.symm ne0)
                have f609 := f227.other R598 (Ne.symm ne1)
                have f610 := f228.other R598 (Ne.symm ne2)
                have k611 := k229.wr R598 (Or.inl (by simp))
                have z612 := Nat.le_trans z230 (Keep.of_wr R598).1
                refine go_aloadN (pc' := 156) W598 d6_155 rfl rfl rfl ?_
                refine go_iloadN (pc' := 157) W598 d6_156 rfl rfl ?_
                refine go_lsw (pc' := 184) W598 d6_157 (by intro a b c d h; simp at h; omega) (by rw [own_sw, if_pos c70_231]; decide) (by rw [own_sw, if_pos c70_231]; decide) ?_
                refine go_iconst (pc' := 185) (z := 1) W598 d6_184 rfl rfl ?_
                refine go_goto (pc' := 193) W598 d6_185 (by decide) rfl ?_
                refine go_putF (pc' := 196) W598 (host := "") (Or.inl (w30 hw)) Via.refl f607 f599 (Or.inl (w31 hw)) (w12 hw) (ty := .byte) (by decide) rfl rfl ge0 d6_193 rfl ?_
                intro T613 h613 W613 R613
                have f614 := f599.wr R613
                have f615 := f600.other R613 (Or.inr (slot_ne (Or.inr (w22 hw)) (Or.inl (w31 hw)) (by decide) (t := (.array .int)) (t' := .byte) (by decide) (by decide)))
                have f616 := f601.other R613 (Or.inr (slot_ne (Or.inr (w24 hw)) (Or.inl (w31 hw)) (by decide) (t := (.array .int)) (t' := .byte) (by decide) (by decide)))
                have f617 := f602.other R613 (Or.inr (slot_ne (Or.inr (w27 hw)) (Or.inl (w31 hw)) (by decide) (t := (.array .byte)) (t' := .byte) (by decide) (by decide)))
                have f618 := f603.other R613 (Or.inr (slot_ne (Or.inl (w44 hw)) (Or.inl (w31 hw)) (by decide) (t := .int) (t' := .byte) (by decide) (by decide)))
                have f619 := f604.other R613 (Or.inr (slot_ne (Or.inl (w48 hw)) (Or.inl (w31 hw)) (by decide) (t := .int) (t' := .byte) (by decide) (by decide)))
                have f620 := f605.other R613 (Or.inr (slot_ne (Or.inl (w29 hw)) (Or.inl (w31 hw)) (by decide) (t := .int) (t' := .byte) (by decide) (by decide)))
                have f621 := f606.other R613 (Or.inr (slot_ne (Or.inl (w46 hw)) (Or.inl (w31 hw)) (by decide) (t := .int) (t' := .byte) (by decide) (by decide)))
                have f622 := f607.same R613
                have f623 := f608.other R613 (Ne.symm ne0)
                have f624 := f609.other R613 (Ne.symm ne1)
                have f625 := f610.other R613 (Ne.symm ne2)
                have k626 := k611.wr R613 (Or.inl (by simp))
                have z627 := Nat.le_trans z612 (Keep.of_wr R613).1
                exact go_retV W613 rfl d6_196 (nb rfl) (nb rfl) (by
                    have e : own_step t ch = (t.1, (t.2.1 + (1 : Int32)), (1 : Int32)) := by simp [own_step, own_low13, own_low10, c70_231, c78_492, c90_493, c98_592, c108_593, c120_594, c127_596]
                    rw [e]
                    exact ⟨rfl, k626, f614, f615, f616, f617, f618, f619, f620, f621, f622, f623.congr (fun j _ => by simp only [own_upd]; split <;> rfl), f624.congr (fun j _ => by simp only [own_upd]; split <;> rfl), f625.congr (fun j _ => by simp only [own_upd]; split <;> first | rfl | exact congrArg Value.int hB)⟩)
              · -- pc 127 not taken
                refine go_aloadN (pc' := 131) W595 d6_130 rfl rfl rfl ?_
                refine go_dup (pc' := 132) W595 d6_131 rfl rfl ?_
                refine go_getF (pc' := 135) W595 (host := "") (Or.inl (w28 hw)) Via.refl f223 d6_132 rfl ?_
                intro T628 W628
                refine go_iconst (pc' := 136) (z := 1) W628 d6_135 rfl rfl ?_
                refine go_iadd (pc' := 137) W628 d6_136 rfl ?_
                refine go_putF (pc' := 140) W628 (host := "") (Or.inl (w28 hw)) Via.refl f223 f217 (Or.inl (w29 hw)) (w12 hw) (ty := .int) (by decide) rfl rfl ge0 d6_137 rfl ?_
                intro T629 h629 W629 R629
                have f630 := f217.wr R629
                have f631 := f218.other R629 (Or.inr (slot_ne (Or.inr (w22 hw)) (Or.inl (w29 hw)) (by decide) (t := (.array .int)) (t' := .int) (by decide) (by decide)))
                have f632 := f219.other R629 (Or.inr (slot_ne (Or.inr (w24 hw)) (Or.inl (w29 hw)) (by decide) (t := (.array .int)) (t' := .int) (by decide) (by decide)))
                have f633 := f220.other R629 (Or.inr (slot_ne (Or.inr (w27 hw)) (Or.inl (w29 hw)) (by decide) (t := (.array .byte)) (t' := .int) (by decide) (by decide)))
                have f634 := f221.other R629 (Or.inr (slot_ne (Or.inl (w44 hw)) (Or.inl (w29 hw)) (by decide) (t := .int) (t' := .int) (by decide) (by decide)))
                have f635 := f222.other R629 (Or.inr (slot_ne (Or.inl (w48 hw)) (Or.inl (w29 hw)) (by decide) (t := .int) (t' := .int) (by decide) (by decide)))
                have f636 := f223.same R629
                have f637 := f224.other R629 (Or.inr (slot_ne (Or.inl (w46 hw)) (Or.inl (w29 hw)) (by decide) (t := .int) (t' := .int) (by decide) (by decide)))
                have f638 := f225.other R629 (Or.inr (slot_ne (Or.inl (w31 hw)) (Or.inl (w29 hw)) (by decide) (t := .byte) (t' := .int) (by decide) (by decide)))
                have f639 := f226.other R629 (Ne.symm ne0)
                have f640 := f227.other R629 (Ne.symm ne1)
                have f641 := f228.other R629 (Ne.symm ne2)
                have k642 := k229.wr R629 (Or.inl (by simp))
                have z643 := Nat.le_trans z230 (Keep.of_wr R629).1
                refine go_aloadN (pc' := 141) W629 d6_140 rfl rfl rfl ?_
                refine go_iconst (pc' := 142) (z := 0) W629 d6_141 rfl rfl ?_
                refine go_putF (pc' := 145) W629 (host := "") (Or.inl (w45 hw)) Via.refl f637 f630 (Or.inl (w46 hw)) (w12 hw) (ty := .int) (by decide) rfl rfl ge0 d6_142 rfl ?_
                intro T644 h644 W644 R644
                have f645 := f630.wr R644
                have f646 := f631.other R644 (Or.inr (slot_ne (Or.inr (w22 hw)) (Or.inl (w46 hw)) (by decide) (t := (.array .int)) (t' := .int) (by decide) (by decide)))
                have f647 := f632.other R644 (Or.inr (slot_ne (Or.inr (w24 hw)) (Or.inl (w46 hw)) (by decide) (t := (.array .int)) (t' := .int) (by decide) (by decide)))
                have f648 := f633.other R644 (Or.inr (slot_ne (Or.inr (w27 hw)) (Or.inl (w46 hw)) (by decide) (t := (.array .byte)) (t' := .int) (by decide) (by decide)))
                have f649 := f634.other R644 (Or.inr (slot_ne (Or.inl (w44 hw)) (Or.inl (w46 hw)) (by decide) (t := .int) (t' := .int) (by decide) (by decide)))
                have f650 := f635.other R644 (Or.inr (slot_ne (Or.inl (w48 hw)) (Or.inl (w46 hw)) (by decide) (t := .int) (t' := .int) (by decide) (by decide)))
                have f651 := f636.other R644 (Or.inr (slot_ne (Or.inl (w29 hw)) (Or.inl (w46 hw)) (by decide) (t := .int) (t' := .int) (by decide) (by decide)))
                have f652 := f637.same R644
                have f653 := f638.other R644 (Or.inr (slot_ne (Or.inl (w31 hw)) (Or.inl (w46 hw)) (by decide) (t := .byte) (t' := .int) (by decide) (by decide)))
                have f654 := f639.other R644 (Ne.symm ne0)
                have f655 := f640.other R644 (Ne.symm ne1)
                have f656 := f641.other R644 (Ne.symm ne2)
                have k657 := k642.wr R644 (Or.inl (by simp))
                have z658 := Nat.le_trans z643 (Keep.of_wr R644).1
                refine go_aloadN (pc' := 146) W644 d6_145 rfl rfl rfl ?_
                refine go_dup (pc' := 147) W644 d6_146 rfl rfl ?_
                refine go_getF (pc' := 150) W644 (host := "") (Or.inl (w45 hw)) Via.refl f652 d6_147 rfl ?_
                intro T659 W659
                refine go_iconst (pc' := 151) (z := 1) W659 d6_150 rfl rfl ?_
                refine go_iaddZ (pc' := 152) (z := 1) W659 d6_151 (by decide) rfl ?_
                refine go_putF (pc' := 155) W659 (host := "") (Or.inl (w45 hw)) Via.refl f652 f645 (Or.inl (w46 hw)) (w12 hw) (ty := .int) (by decide) rfl rfl ge0 d6_152 rfl ?_
                intro T660 h660 W660 R660
                have f661 := f645.wr R660
                have f662 := f646.other R660 (Or.inr (slot_ne (Or.inr (w22 hw)) (Or.inl (w46 hw)) (by decide) (t := (.array .int)) (t' := .int) (by decide) (by decide)))
                have f663 := f647.other R660 (Or.inr (slot_ne (Or.inr (w24 hw)) (Or.inl (w46 hw)) (by decide) (t := (.array .int)) (t' := .int) (by decide) (by decide)))
                have f664 := f648.other R660 (Or.inr (slot_ne (Or.inr (w27 hw)) (Or.inl (w46 hw)) (by decide) (t := (.array .byte)) (t' := .int) (by decide) (by decide)))
                have f665 := f649.other R660 (Or.inr (slot_ne (Or.inl (w44 hw)) (Or.inl (w46 hw)) (by decide) (t := .int) (t' := .int) (by decide) (by decide)))
                have f666 := f650.other R660 (Or.inr (slot_ne (Or.inl (w48 hw)) (Or.inl (w46 hw)) (by decide) (t := .int) (t' := .int) (by decide) (by decide)))
                have f667 := f651.other R660 (Or.inr (slot_ne (Or.inl (w29 hw)) (Or.inl (w46 hw)) (by decide) (t := .int) (t' := .int) (by decide) (by decide)))
                have f668 := f652.same R660
                have f669 := f653.other R660 (Or.inr (slot_ne (Or.inl (w31 hw)) (Or.inl (w46 hw)) (by decide) (t := .byte) (t' := .int) (by decide) (by decide)))
                have f670 := f654.other R660 (Ne.symm ne0)
                have f671 := f655.other R660 (Ne.symm ne1)
                have f672 := f656.other R660 (Ne.symm ne2)
                have k673 := k657.wr R660 (Or.inl (by simp))
                have z674 := Nat.le_trans z658 (Keep.of_wr R660).1
                refine go_aloadN (pc' := 156) W660 d6_155 rfl rfl rfl ?_
                refine go_iloadN (pc' := 157) W660 d6_156 rfl rfl ?_
                refine go_lsw (pc' := 184) W660 d6_157 (by intro a b c d h; simp at h; omega) (by rw [own_sw, if_pos c70_231]; decide) (by rw [own_sw, if_pos c70_231]; decide) ?_
                refine go_iconst (pc' := 185) (z := 1) W660 d6_184 rfl rfl ?_
                refine go_goto (pc' := 193) W660 d6_185 (by decide) rfl ?_
                refine go_putF (pc' := 196) W660 (host := "") (Or.inl (w30 hw)) Via.refl f669 f661 (Or.inl (w31 hw)) (w12 hw) (ty := .byte) (by decide) rfl rfl ge0 d6_193 rfl ?_
                intro T675 h675 W675 R675
                have f676 := f661.wr R675
                have f677 := f662.other R675 (Or.inr (slot_ne (Or.inr (w22 hw)) (Or.inl (w31 hw)) (by decide) (t := (.array .int)) (t' := .byte) (by decide) (by decide)))
                have f678 := f663.other R675 (Or.inr (slot_ne (Or.inr (w24 hw)) (Or.inl (w31 hw)) (by decide) (t := (.array .int)) (t' := .byte) (by decide) (by decide)))
                have f679 := f664.other R675 (Or.inr (slot_ne (Or.inr (w27 hw)) (Or.inl (w31 hw)) (by decide) (t := (.array .byte)) (t' := .byte) (by decide) (by decide)))
                have f680 := f665.other R675 (Or.inr (slot_ne (Or.inl (w44 hw)) (Or.inl (w31 hw)) (by decide) (t := .int) (t' := .byte) (by decide) (by decide)))
                have f681 := f666.other R675 (Or.inr (slot_ne (Or.inl (w48 hw)) (Or.inl (w31 hw)) (by decide) (t := .int) (t' := .byte) (by decide) (by decide)))
                have f682 := f667.other R675 (Or.inr (slot_ne (Or.inl (w29 hw)) (Or.inl (w31 hw)) (by decide) (t := .int) (t' := .byte) (by decide) (by decide)))
                have f683 := f668.other R675 (Or.inr (slot_ne (Or.inl (w46 hw)) (Or.inl (w31 hw)) (by decide) (t := .int) (t' := .byte) (by decide) (by decide)))
                have f684 := f669.same R675
                have f685 := f670.other R675 (Ne.symm ne0)
                have f686 := f671.other R675 (Ne.symm ne1)
                have f687 := f672.other R675 (Ne.symm ne2)
                have k688 := k673.wr R675 (Or.inl (by simp))
                have z689 := Nat.le_trans z674 (Keep.of_wr R675).1
                exact go_retV W675 rfl d6_196 (nb rfl) (nb rfl) (by
                    have e : own_step t ch = ((t.1 + (1 : Int32)), (1 : Int32), (1 : Int32)) := by simp [own_step, own_low13, own_low10, c70_231, c78_492, c90_493, c98_592, c108_593, c120_594, c127_596]
                    rw [e]
                    exact ⟨rfl, k688, f676, f677, f678, f679, f680, f681, f682, f683, f684, f685.congr (fun j _ => by simp only [own_upd]; split <;> rfl), f686.congr (fun j _ => by simp only [own_upd]; split <;> rfl), f687.congr (fun j _ => by simp only [own_upd]; split <;> first | rfl | exact congrArg Value.int hB)⟩)
          · exact absurd c108_593 (by decide)
        · -- pc 98 not taken
          refine go_iconst (pc' := 102) (z := 1) W591 d6_101 rfl rfl ?_
          refine go_goto (pc' := 106) W591 d6_102 (by decide) rfl ?_
          refine go_istoreN (pc' := 107) (l' := #[.val (.ref a), .val (.int ch), .val (.int (0 : Int32)), .val (.int (1 : Int32))]) W591 d6_106 rfl rfl ?_
          refine go_iloadN (pc' := 108) W591 d6_107 rfl rfl ?_
          refine go_if_eq (pt := 119) (pf := 111) W591 d6_108 (by decide) rfl rfl (fun c108_690 => ?_) (fun c108_690 => ?_)
          · -- pc 108 taken
            refine go_iloadN (pc' := 120) W591 d6_119 rfl rfl ?_
            refine go_if_ne (pt := 196) (pf := 123) W591 d6_120 (by decide) rfl rfl (fun c120_691 => ?_) (fun c120_691 => ?_)
            · -- pc 120 taken
              exact go_retV W591 rfl d6_196 (nb rfl) (nb rfl) (by
                  rw [c70_231] at c98_592; exact absurd own_low10 c98_592)
            · exact absurd c120_691 (by decide)
          · exact absurd c108_690 (by decide)
    · -- pc 78 not taken
      refine go_iconst (pc' := 82) (z := 1) W491 d6_81 rfl rfl ?_
      refine go_goto (pc' := 86) W491 d6_82 (by decide) rfl ?_
      refine go_istoreN (pc' := 87) (l' := #[.val (.ref a), .val (.int ch), .val (.int (1 : Int32)), .unset]) W491 d6_86 rfl rfl ?_
      refine go_iloadN (pc' := 88) W491 d6_87 rfl rfl ?_
      refine go_ldcInt (pc' := 90) W491 (w52 hw) d6_88 rfl ?_
      refine go_icmp_gt (pt := 105) (pf := 93) W491 d6_90 (by decide) rfl rfl (fun c90_692 => ?_) (fun c90_692 => ?_)
      · -- pc 90 taken
        refine go_iconst (pc' := 106) (z := 0) W491 d6_105 rfl rfl ?_
        refine go_istoreN (pc' := 107) (l' := #[.val (.ref a), .val (.int ch), .val (.int (1 : Int32)), .val (.int (0 : Int32))]) W491 d6_106 rfl rfl ?_
        refine go_iloadN (pc' := 108) W491 d6_107 rfl rfl ?_
        refine go_if_eq (pt := 119) (pf := 111) W491 d6_108 (by decide) rfl rfl (fun c108_693 => ?_) (fun c108_693 => ?_)
        · exact absurd c108_693 (by decide)
        · -- pc 108 not taken
          refine go_aloadN (pc' := 112) W491 d6_111 rfl rfl rfl ?_
          refine go_iconst (pc' := 113) (z := 1) W491 d6_112 rfl rfl ?_
          refine go_putF (pc' := 116) W491 (host := "") (Or.inl (w30 hw)) Via.refl f225 f217 (Or.inl (w31 hw)) (w12 hw) (ty := .byte) (by decide) rfl rfl ge0 d6_113 rfl ?_
          intro T694 h694 W694 R694
          have f695 := f217.wr R694
          have f696 := f218.other R694 (Or.inr (slot_ne (Or.inr (w22 hw)) (Or.inl (w31 hw)) (by decide) (t := (.array .int)) (t' := .byte) (by decide) (by decide)))
          have f697 := f219.other R694 (Or.inr (slot_ne (Or.inr (w24 hw)) (Or.inl (w31 hw)) (by decide) (t := (.array .int)) (t' := .byte) (by decide) (by decide)))
          have f698 := f220.other R694 (Or.inr (slot_ne (Or.inr (w27 hw)) (Or.inl (w31 hw)) (by decide) (t := (.array .byte)) (t' := .byte) (by decide) (by decide)))
          have f699 := f221.other R694 (Or.inr (slot_ne (Or.inl (w44 hw)) (Or.inl (w31 hw)) (by decide) (t := .int) (t' := .byte) (by decide) (by decide)))
          have f700 := f222.other R694 (Or.inr (slot_ne (Or.inl (w48 hw)) (Or.inl (w31 hw)) (by decide) (t := .int) (t' := .byte) (by decide) (by decide)))
          have f701 := f223.other R694 (Or.inr (slot_ne (Or.inl (w29 hw)) (Or.inl (w31 hw)) (by decide) (t := .int) (t' := .byte) (by decide) (by decide)))
          have f702 := f224.other R694 (Or.inr (slot_ne (Or.inl (w46 hw)) (Or.inl (w31 hw)) (by decide) (t := .int) (t' := .byte) (by decide) (by decide)))
          have f703 := f225.same R694
          have f704 := f226.other R694 (Ne.symm ne0)
          have f705 := f227.other R694 (Ne.symm ne1)
          have f706 := f228.other R694 (Ne.symm ne2)
          have k707 := k229.wr R694 (Or.inl (by simp))
          have z708 := Nat.le_trans z230 (Keep.of_wr R694).1
          refine go_goto (pc' := 196) W694 d6_116 (by decide) rfl ?_
          exact go_retV W694 rfl d6_196 (nb rfl) (nb rfl) (by
              have e : own_step t ch = (t.1, t.2.1, (1 : Int32)) := by simp [own_step, own_low13, own_low10, c70_231, c78_492, c90_692, c108_693]
              rw [e]
              exact ⟨rfl, k707, f695, f696, f697, f698, f699, f700, f701, f702, f703, f704.congr (fun j _ => by simp only [own_upd]; split <;> rfl), f705.congr (fun j _ => by simp only [own_upd]; split <;> rfl), f706.congr (fun j _ => by simp only [own_upd]; split <;> first | rfl | exact congrArg Value.int hB)⟩)
      · -- pc 90 not taken
        refine go_iloadN (pc' := 94) W491 d6_93 rfl rfl ?_
        refine go_i2c (pc' := 95) W491 d6_94 rfl ?_
        refine go_callS (kc := K8) (argsL := [(.int (ch.toUInt32.toUInt16.toUInt32.toInt32))]) (rest := []) (pc' := 98) W491 (w53 hw) (w54 hw) (w55 hw) (w56 hw) (rm8 E.l Z a0 hw (ch.toUInt32.toUInt16.toUInt32.toInt32) h216 n0 z230) (by decide) pd1 rfl rfl rfl (nb rfl) (nb rfl) (nb rfl) (nb rfl) d6_95 rfl ?_
        rintro _ T709 h709 ⟨rfl, q709⟩ W709
        replace W709 := W709.sub q709
        show Go E _ (Fm E T709 98 #[.val (.ref a), .val (.int ch), .val (.int (1 : Int32)), .unset] [(.int (own_lowS (ch.toUInt32.toUInt16.toUInt32.toInt32)))])
        refine go_if_eq (pt := 105) (pf := 101) W709 d6_98 (by decide) rfl rfl (fun c98_710 => ?_) (fun c98_710 => ?_)
        · -- pc 98 taken
          refine go_iconst (pc' := 106) (z := 0) W709 d6_105 rfl rfl ?_
          refine go_istoreN (pc' := 107) (l' := #[.val (.ref a), .val (.int ch), .val (.int (1 : Int32)), .val (.int (0 : Int32))]) W709 d6_106 rfl rfl ?_
          refine go_iloadN (pc' := 108) W709 d6_107 rfl rfl ?_
          refine go_if_eq (pt := 119) (pf := 111) W709 d6_108 (by decide) rfl rfl (fun c108_711 => ?_) (fun c108_711 => ?_)
          · exact absurd c108_711 (by decide)
          · -- pc 108 not taken
            refine go_aloadN (pc' := 112) W709 d6_111 rfl rfl rfl ?_
            refine go_iconst (pc' := 113) (z := 1) W709 d6_112 rfl rfl ?_
            refine go_putF (pc' := 116) W709 (host := "") (Or.inl (w30 hw)) Via.refl f225 f217 (Or.inl (w31 hw)) (w12 hw) (ty := .byte) (by decide) rfl rfl ge0 d6_113 rfl ?_
            intro T712 h712 W712 R712
            have f713 := f217.wr R712
            have f714 := f218.other R712 (Or.inr (slot_ne (Or.inr (w22 hw)) (Or.inl (w31 hw)) (by decide) (t := (.array .int)) (t' := .byte) (by decide) (by decide)))
            have f715 := f219.other R712 (Or.inr (slot_ne (Or.inr (w24 hw)) (Or.inl (w31 hw)) (by decide) (t := (.array .int)) (t' := .byte) (by decide) (by decide)))
            have f716 := f220.other R712 (Or.inr (slot_ne (Or.inr (w27 hw)) (Or.inl (w31 hw)) (by decide) (t := (.array .byte)) (t' := .byte) (by decide) (by decide)))
            have f717 := f221.other R712 (Or.inr (slot_ne (Or.inl (w44 hw)) (Or.inl (w31 hw)) (by decide) (t := .int) (t' := .byte) (by decide) (by decide)))
            have f718 := f222.other R712 (Or.inr (slot_ne (Or.inl (w48 hw)) (Or.inl (w31 hw)) (by decide) (t := .int) (t' := .byte) (by decide) (by decide)))
            have f719 := f223.other R712 (Or.inr (slot_ne (Or.inl (w29 hw)) (Or.inl (w31 hw)) (by decide) (t := .int) (t' := .byte) (by decide) (by decide)))
            have f720 := f224.other R712 (Or.inr (slot_ne (Or.inl (w46 hw)) (Or.inl (w31 hw)) (by decide) (t := .int) (t' := .byte) (by decide) (by decide)))
            have f721 := f225.same R712
            have f722 := f226.other R712 (Ne.symm ne0)
            have f723 := f227.other R712 (Ne.symm ne1)
            have f724 := f228.other R712 (Ne.symm ne2)
            have k725 := k229.wr R712 (Or.inl (by simp))
            have z726 := Nat.le_trans z230 (Keep.of_wr R712).1
            refine go_goto (pc' := 196) W712 d6_116 (by decide) rfl ?_
            exact go_retV W712 rfl d6_196 (nb rfl) (nb rfl) (by
                have e : own_step t ch = (t.1, t.2.1, (1 : Int32)) := by simp [own_step, own_low13, own_low10, c70_231, c78_492, c90_692, c98_710, c108_711]
                rw [e]
                exact ⟨rfl, k725, f713, f714, f715, f716, f717, f718, f719, f720, f721, f722.congr (fun j _ => by simp only [own_upd]; split <;> rfl), f723.congr (fun j _ => by simp only [own_upd]; split <;> rfl), f724.congr (fun j _ => by simp only [own_upd]; split <;> first | rfl | exact congrArg Value.int hB)⟩)
        · -- pc 98 not taken
          refine go_iconst (pc' := 102) (z := 1) W709 d6_101 rfl rfl ?_
          refine go_goto (pc' := 106) W709 d6_102 (by decide) rfl ?_
          refine go_istoreN (pc' := 107) (l' := #[.val (.ref a), .val (.int ch), .val (.int (1 : Int32)), .val (.int (1 : Int32))]) W709 d6_106 rfl rfl ?_
          refine go_iloadN (pc' := 108) W709 d6_107 rfl rfl ?_
          refine go_if_eq (pt := 119) (pf := 111) W709 d6_108 (by decide) rfl rfl (fun c108_727 => ?_) (fun c108_727 => ?_)
          · exact absurd c108_727 (by decide)
          · -- pc 108 not taken
            refine go_aloadN (pc' := 112) W709 d6_111 rfl rfl rfl ?_
            refine go_iconst (pc' := 113) (z := 1) W709 d6_112 rfl rfl ?_
            refine go_putF (pc' := 116) W709 (host := "") (Or.inl (w30 hw)) Via.refl f225 f217 (Or.inl (w31 hw)) (w12 hw) (ty := .byte) (by decide) rfl rfl ge0 d6_113 rfl ?_
            intro T728 h728 W728 R728
            have f729 := f217.wr R728
            have f730 := f218.other R728 (Or.inr (slot_ne (Or.inr (w22 hw)) (Or.inl (w31 hw)) (by decide) (t := (.array .int)) (t' := .byte) (by decide) (by decide)))
            have f731 := f219.other R728 (Or.inr (slot_ne (Or.inr (w24 hw)) (Or.inl (w31 hw)) (by decide) (t := (.array .int)) (t' := .byte) (by decide) (by decide)))
            have f732 := f220.other R728 (Or.inr (slot_ne (Or.inr (w27 hw)) (Or.inl (w31 hw)) (by decide) (t := (.array .byte)) (t' := .byte) (by decide) (by decide)))
            have f733 := f221.other R728 (Or.inr (slot_ne (Or.inl (w44 hw)) (Or.inl (w31 hw)) (by decide) (t := .int) (t' := .byte) (by decide) (by decide)))
            have f734 := f222.other R728 (Or.inr (slot_ne (Or.inl (w48 hw)) (Or.inl (w31 hw)) (by decide) (t := .int) (t' := .byte) (by decide) (by decide)))
            have f735 := f223.other R728 (Or.inr (slot_ne (Or.inl (w29 hw)) (Or.inl (w31 hw)) (by decide) (t := .int) (t' := .byte) (by decide) (by decide)))
            have f736 := f224.other R728 (Or.inr (slot_ne (Or.inl (w46 hw)) (Or.inl (w31 hw)) (by decide) (t := .int) (t' := .byte) (by decide) (by decide)))
            have f737 := f225.same R728
            have f738 := f226.other R728 (Ne.symm ne0)
            have f739 := f227.other R728 (Ne.symm ne1)
            have f740 := f228.other R728 (Ne.symm ne2)
            have k741 := k229.wr R728 (Or.inl (by simp))
            have z742 := Nat.le_trans z230 (Keep.of_wr R728).1
            refine go_goto (pc' := 196) W728 d6_116 (by decide) rfl ?_
            exact go_retV W728 rfl d6_196 (nb rfl) (nb rfl) (by
                rw [c70_231] at c98_710; exact absurd own_low10 c98_710)
set_option maxRecDepth 65536 in
set_option maxHeartbeats 4000000 in
theorem rm9 (l : Launch) (Z : State) (a0 : Array Value) (hw : Hw a0 Z) (a : Addr) (la ca ba : Addr) (nw kp : Int32) (t : Tri) (fl fc fb : Nat → Int32) (h0 : Heap) (n0 : Nat) (Z0 : n0 ≤ h0.size) (P0 : own_Pos Z h0 a la ca ba nw kp t fl fc fb) (NE : own_Ne n0 a la ca ba) (hn : 0 ≤ nw.toInt ∧ nw.toInt < 16) (hF : ∀ i, own_okB (fb i)) :
    Ct l Z K9 #[(.ref a)] h0 n0 (fun v h => v = none ∧ Keep h0 h [a, la, ca, ba] ∧ own_Pos Z h a la ca ba (own_sbN kp nw) (own_sbK kp) (own_sbT kp nw t fl fc fb) fl fc fb) := by
  refine Ct.of (Ls := #[.val (.ref a)]) (plainFor_of_name (by first | decide +kernel | (simp [plainName, overriddenIn]; done))) (fun m => by first | rfl | (simp [entryFrame, mkF, argsToLocals, Value.category]; done)) ?_
  intro E T W
  obtain ⟨Ea, F0, F1, F2, F3, F4, F5, F6, F7, A0, A1, A2⟩ := P0
  obtain ⟨ne0, ne1, ne2, ne3, ne4, ne5, ge0, ge1, ge2, ge3⟩ := NE
  refine go_aloadN (pc' := 1) W d9_0 rfl rfl rfl ?_
  refine go_getF (pc' := 4) W (host := "") (Or.inl (w47 hw)) Via.refl F4 d9_1 rfl ?_
  intro T743 W743
  refine go_if_ne (pt := 8) (pf := 7) W743 d9_4 (by decide) rfl rfl (fun c4_744 => ?_) (fun c4_744 => ?_)
  · -- pc 4 taken
    refine go_aloadN (pc' := 9) W743 d9_8 rfl rfl rfl ?_
    refine go_aloadN (pc' := 10) W743 d9_9 rfl rfl rfl ?_
    refine go_getF (pc' := 13) W743 (host := "") (Or.inl (w21 hw)) Via.refl F0 d9_10 rfl ?_
    intro T745 W745
    refine go_aloadN (pc' := 14) W745 d9_13 rfl rfl rfl ?_
    refine go_getF (pc' := 17) W745 (host := "") (Or.inl (w43 hw)) Via.refl F3 d9_14 rfl ?_
    intro T746 W746
    refine go_ialoadF (pc' := 18) (i := (own_ix nw)) (v := (.int (fl (own_ix nw)))) W746 A0 (own_nwj nw hn).1 (own_nwj nw hn).2 rfl d9_17 rfl ?_
    refine go_putF (pc' := 21) W746 (host := "") (Or.inl (w28 hw)) Via.refl F5 Ea (Or.inl (w29 hw)) (w12 hw) (ty := .int) (by decide) rfl rfl ge0 d9_18 rfl ?_
    intro T747 h747 W747 R747
    have f748 := Ea.wr R747
    have f749 := F0.other R747 (Or.inr (slot_ne (Or.inr (w22 hw)) (Or.inl (w29 hw)) (by decide) (t := (.array .int)) (t' := .int) (by decide) (by decide)))
    have f750 := F1.other R747 (Or.inr (slot_ne (Or.inr (w24 hw)) (Or.inl (w29 hw)) (by decide) (t := (.array .int)) (t' := .int) (by decide) (by decide)))
    have f751 := F2.other R747 (Or.inr (slot_ne (Or.inr (w27 hw)) (Or.inl (w29 hw)) (by decide) (t := (.array .byte)) (t' := .int) (by decide) (by decide)))
    have f752 := F3.other R747 (Or.inr (slot_ne (Or.inl (w44 hw)) (Or.inl (w29 hw)) (by decide) (t := .int) (t' := .int) (by decide) (by decide)))
    have f753 := F4.other R747 (Or.inr (slot_ne (Or.inl (w48 hw)) (Or.inl (w29 hw)) (by decide) (t := .int) (t' := .int) (by decide) (by decide)))
    have f754 := F5.same R747
    have f755 := F6.other R747 (Or.inr (slot_ne (Or.inl (w46 hw)) (Or.inl (w29 hw)) (by decide) (t := .int) (t' := .int) (by decide) (by decide)))
    have f756 := F7.other R747 (Or.inr (slot_ne (Or.inl (w31 hw)) (Or.inl (w29 hw)) (by decide) (t := .byte) (t' := .int) (by decide) (by decide)))
    have f757 := A0.other R747 (Ne.symm ne0)
    have f758 := A1.other R747 (Ne.symm ne1)
    have f759 := A2.other R747 (Ne.symm ne2)
    have k760 := (Keep.refl h0 [a, la, ca, ba]).wr R747 (Or.inl (by simp))
    have z761 := Nat.le_trans Z0 (Keep.of_wr R747).1
    refine go_aloadN (pc' := 22) W747 d9_21 rfl rfl rfl ?_
    refine go_aloadN (pc' := 23) W747 d9_22 rfl rfl rfl ?_
    refine go_getF (pc' := 26) W747 (host := "") (Or.inl (w23 hw)) Via.refl f750 d9_23 rfl ?_
    intro T762 W762
    refine go_aloadN (pc' := 27) W762 d9_26 rfl rfl rfl ?_
    refine go_getF (pc' := 30) W762 (host := "") (Or.inl (w43 hw)) Via.refl f752 d9_27 rfl ?_
    intro T763 W763
    refine go_ialoadF (pc' := 31) (i := (own_ix nw)) (v := (.int (fc (own_ix nw)))) W763 f758 (own_nwj nw hn).1 (own_nwj nw hn).2 rfl d9_30 rfl ?_
    refine go_putF (pc' := 34) W763 (host := "") (Or.inl (w45 hw)) Via.refl f755 f748 (Or.inl (w46 hw)) (w12 hw) (ty := .int) (by decide) rfl rfl ge0 d9_31 rfl ?_
    intro T764 h764 W764 R764
    have f765 := f748.wr R764
    have f766 := f749.other R764 (Or.inr (slot_ne (Or.inr (w22 hw)) (Or.inl (w46 hw)) (by decide) (t := (.array .int)) (t' := .int) (by decide) (by decide)))
    have f767 := f750.other R764 (Or.inr (slot_ne (Or.inr (w24 hw)) (Or.inl (w46 hw)) (by decide) (t := (.array .int)) (t' := .int) (by decide) (by decide)))
    have f768 := f751.other R764 (Or.inr (slot_ne (Or.inr (w27 hw)) (Or.inl (w46 hw)) (by decide) (t := (.array .byte)) (t' := .int) (by decide) (by decide)))
    have f769 := f752.other R764 (Or.inr (slot_ne (Or.inl (w44 hw)) (Or.inl (w46 hw)) (by decide) (t := .int) (t' := .int) (by decide) (by decide)))
    have f770 := f753.other R764 (Or.inr (slot_ne (Or.inl (w48 hw)) (Or.inl (w46 hw)) (by decide) (t := .int) (t' := .int) (by decide) (by decide)))
    have f771 := f754.other R764 (Or.inr (slot_ne (Or.inl (w29 hw)) (Or.inl (w46 hw)) (by decide) (t := .int) (t' := .int) (by decide) (by decide)))
    have f772 := f755.same R764
    have f773 := f756.other R764 (Or.inr (slot_ne (Or.inl (w31 hw)) (Or.inl (w46 hw)) (by decide) (t := .byte) (t' := .int) (by decide) (by decide)))
    have f774 := f757.other R764 (Ne.symm ne0)
    have f775 := f758.other R764 (Ne.symm ne1)
    have f776 := f759.other R764 (Ne.symm ne2)
    have k777 := k760.wr R764 (Or.inl (by simp))
    have z778 := Nat.le_trans z761 (Keep.of_wr R764).1
    refine go_aloadN (pc' := 35) W764 d9_34 rfl rfl rfl ?_
    refine go_aloadN (pc' := 36) W764 d9_35 rfl rfl rfl ?_
    refine go_getF (pc' := 39) W764 (host := "") (Or.inl (w26 hw)) Via.refl f768 d9_36 rfl ?_
    intro T779 W779
    refine go_aloadN (pc' := 40) W779 d9_39 rfl rfl rfl ?_
    refine go_getF (pc' := 43) W779 (host := "") (Or.inl (w43 hw)) Via.refl f769 d9_40 rfl ?_
    intro T780 W780
    refine go_baloadF (pc' := 44) (i := (own_ix nw)) (v := (.int (fb (own_ix nw)))) W780 f776 (own_nwj nw hn).1 (own_nwj nw hn).2 rfl d9_43 rfl ?_
    refine go_putF (pc' := 47) W780 (host := "") (Or.inl (w30 hw)) Via.refl f773 f765 (Or.inl (w31 hw)) (w12 hw) (ty := .byte) (by decide) (own_B1 (hF _)) (own_B2 (hF _)) ge0 d9_44 rfl ?_
    intro T781 h781 W781 R781
    have f782 := f765.wr R781
    have f783 := f766.other R781 (Or.inr (slot_ne (Or.inr (w22 hw)) (Or.inl (w31 hw)) (by decide) (t := (.array .int)) (t' := .byte) (by decide) (by decide)))
    have f784 := f767.other R781 (Or.inr (slot_ne (Or.inr (w24 hw)) (Or.inl (w31 hw)) (by decide) (t := (.array .int)) (t' := .byte) (by decide) (by decide)))
    have f785 := f768.other R781 (Or.inr (slot_ne (Or.inr (w27 hw)) (Or.inl (w31 hw)) (by decide) (t := (.array .byte)) (t' := .byte) (by decide) (by decide)))
    have f786 := f769.other R781 (Or.inr (slot_ne (Or.inl (w44 hw)) (Or.inl (w31 hw)) (by decide) (t := .int) (t' := .byte) (by decide) (by decide)))
    have f787 := f770.other R781 (Or.inr (slot_ne (Or.inl (w48 hw)) (Or.inl (w31 hw)) (by decide) (t := .int) (t' := .byte) (by decide) (by decide)))
    have f788 := f771.other R781 (Or.inr (slot_ne (Or.inl (w29 hw)) (Or.inl (w31 hw)) (by decide) (t := .int) (t' := .byte) (by decide) (by decide)))
    have f789 := f772.other R781 (Or.inr (slot_ne (Or.inl (w46 hw)) (Or.inl (w31 hw)) (by decide) (t := .int) (t' := .byte) (by decide) (by decide)))
    have f790 := f773.same R781
    have f791 := f774.other R781 (Ne.symm ne0)
    have f792 := f775.other R781 (Ne.symm ne1)
    have f793 := f776.other R781 (Ne.symm ne2)
    have k794 := k777.wr R781 (Or.inl (by simp))
    have z795 := Nat.le_trans z778 (Keep.of_wr R781).1
    refine go_aloadN (pc' := 48) W781 d9_47 rfl rfl rfl ?_
    refine go_aloadN (pc' := 49) W781 d9_48 rfl rfl rfl ?_
    refine go_getF (pc' := 52) W781 (host := "") (Or.inl (w43 hw)) Via.refl f786 d9_49 rfl ?_
    intro T796 W796
    refine go_bipush (pc' := 54) (z := 16) W796 d9_52 (by decide) rfl ?_
    refine go_iadd (pc' := 55) W796 d9_54 rfl ?_
    refine go_iconst (pc' := 56) (z := 1) W796 d9_55 rfl rfl ?_
    refine go_isub (pc' := 57) W796 d9_56 rfl ?_
    refine go_bipush (pc' := 59) (z := 16) W796 d9_57 (by decide) rfl ?_
    refine go_irem (pc' := 60) W796 d9_59 (by decide) rfl ?_
    refine go_putF (pc' := 63) W796 (host := "") (Or.inl (w43 hw)) Via.refl f786 f782 (Or.inl (w44 hw)) (w12 hw) (ty := .int) (by decide) rfl rfl ge0 d9_60 rfl ?_
    intro T797 h797 W797 R797
    have f798 := f782.wr R797
    have f799 := f783.other R797 (Or.inr (slot_ne (Or.inr (w22 hw)) (Or.inl (w44 hw)) (by decide) (t := (.array .int)) (t' := .int) (by decide) (by decide)))
    have f800 := f784.other R797 (Or.inr (slot_ne (Or.inr (w24 hw)) (Or.inl (w44 hw)) (by decide) (t := (.array .int)) (t' := .int) (by decide) (by decide)))
    have f801 := f785.other R797 (Or.inr (slot_ne (Or.inr (w27 hw)) (Or.inl (w44 hw)) (by decide) (t := (.array .byte)) (t' := .int) (by decide) (by decide)))
    have f802 := f786.same R797
    have f803 := f787.other R797 (Or.inr (slot_ne (Or.inl (w48 hw)) (Or.inl (w44 hw)) (by decide) (t := .int) (t' := .int) (by decide) (by decide)))
    have f804 := f788.other R797 (Or.inr (slot_ne (Or.inl (w29 hw)) (Or.inl (w44 hw)) (by decide) (t := .int) (t' := .int) (by decide) (by decide)))
    have f805 := f789.other R797 (Or.inr (slot_ne (Or.inl (w46 hw)) (Or.inl (w44 hw)) (by decide) (t := .int) (t' := .int) (by decide) (by decide)))
    have f806 := f790.other R797 (Or.inr (slot_ne (Or.inl (w31 hw)) (Or.inl (w44 hw)) (by decide) (t := .byte) (t' := .int) (by decide) (by decide)))
    have f807 := f791.other R797 (Ne.symm ne0)
    have f808 := f792.other R797 (Ne.symm ne1)
    have f809 := f793.other R797 (Ne.symm ne2)
    have k810 := k794.wr R797 (Or.inl (by simp))
    have z811 := Nat.le_trans z795 (Keep.of_wr R797).1
    refine go_aloadN (pc' := 64) W797 d9_63 rfl rfl rfl ?_
    refine go_dup (pc' := 65) W797 d9_64 rfl rfl ?_
    refine go_getF (pc' := 68) W797 (host := "") (Or.inl (w47 hw)) Via.refl f803 d9_65 rfl ?_
    intro T812 W812
    refine go_iconst (pc' := 69) (z := 1) W812 d9_68 rfl rfl ?_
    refine go_isub (pc' := 70) W812 d9_69 rfl ?_
    refine go_putF (pc' := 73) W812 (host := "") (Or.inl (w47 hw)) Via.refl f803 f798 (Or.inl (w48 hw)) (w12 hw) (ty := .int) (by decide) rfl rfl ge0 d9_70 rfl ?_
    intro T813 h813 W813 R813
    have f814 := f798.wr R813
    have f815 := f799.other R813 (Or.inr (slot_ne (Or.inr (w22 hw)) (Or.inl (w48 hw)) (by decide) (t := (.array .int)) (t' := .int) (by decide) (by decide)))
    have f816 := f800.other R813 (Or.inr (slot_ne (Or.inr (w24 hw)) (Or.inl (w48 hw)) (by decide) (t := (.array .int)) (t' := .int) (by decide) (by decide)))
    have f817 := f801.other R813 (Or.inr (slot_ne (Or.inr (w27 hw)) (Or.inl (w48 hw)) (by decide) (t := (.array .byte)) (t' := .int) (by decide) (by decide)))
    have f818 := f802.other R813 (Or.inr (slot_ne (Or.inl (w44 hw)) (Or.inl (w48 hw)) (by decide) (t := .int) (t' := .int) (by decide) (by decide)))
    have f819 := f803.same R813
    have f820 := f804.other R813 (Or.inr (slot_ne (Or.inl (w29 hw)) (Or.inl (w48 hw)) (by decide) (t := .int) (t' := .int) (by decide) (by decide)))
    have f821 := f805.other R813 (Or.inr (slot_ne (Or.inl (w46 hw)) (Or.inl (w48 hw)) (by decide) (t := .int) (t' := .int) (by decide) (by decide)))
    have f822 := f806.other R813 (Or.inr (slot_ne (Or.inl (w31 hw)) (Or.inl (w48 hw)) (by decide) (t := .byte) (t' := .int) (by decide) (by decide)))
    have f823 := f807.other R813 (Ne.symm ne0)
    have f824 := f808.other R813 (Ne.symm ne1)
    have f825 := f809.other R813 (Ne.symm ne2)
    have k826 := k810.wr R813 (Or.inl (by simp))
    have z827 := Nat.le_trans z811 (Keep.of_wr R813).1
    exact go_retV W813 rfl d9_73 (nb rfl) (nb rfl) (by
        rw [own_sbN, own_sbK, own_sbT, if_neg c4_744, if_neg c4_744, if_neg c4_744]
        exact ⟨rfl, k826, f814, f815, f816, f817, f818, f819, f820, f821, f822, f823, f824, f825⟩)
  · -- pc 4 not taken
    exact go_retV W743 rfl d9_7 (nb rfl) (nb rfl) (by
        rw [own_sbN, own_sbK, own_sbT, if_pos c4_744, if_pos c4_744, if_pos c4_744]
        exact ⟨rfl, (Keep.refl h0 [a, la, ca, ba]), Ea, F0, F1, F2, F3, F4, F5, F6, F7, A0, A1, A2⟩)
def own_st (f : Nat → Int32) : Nat → Tri
  | 0 => (1, 0, 0)
  | i + 1 => own_step (own_st f i) (f i)
def own_rg (nw : Int32) (fl fc fb : Nat → Int32) (d : Nat) : Tri := (fl ((own_ix nw + 16 - d) % 16), fc ((own_ix nw + 16 - d) % 16), fb ((own_ix nw + 16 - d) % 16))
def own_AI (f : Nat → Int32) (r i : Nat) (nw kp : Int32) (t : Tri) (fl fc fb : Nat → Int32) : Prop :=
  (0 ≤ nw.toInt ∧ nw.toInt < 16) ∧ (0 ≤ kp.toInt ∧ kp.toInt ≤ 16) ∧ t = own_st f i ∧ (r = 0 → kp.toInt = (i : Int)) ∧ ((i : Int) - (r : Int) ≤ kp.toInt) ∧ (∀ d, d < 3 → d + r < i → own_rg nw fl fc fb d = own_st f (i - 1 - d)) ∧ own_okB t.2.2 ∧ ∀ x, own_okB (fb x)
def own_BI (f : Nat → Int32) (n r j : Nat) (nw kp : Int32) (t : Tri) (fl fc fb : Nat → Int32) : Prop :=
  (0 ≤ nw.toInt ∧ nw.toInt < 16) ∧ (0 ≤ kp.toInt ∧ kp.toInt ≤ 16) ∧ t = own_st f (n - j) ∧ (r = 0 → kp.toInt = ((n - j : Nat) : Int)) ∧ (0 < r → 3 - (j : Int) ≤ kp.toInt) ∧ (∀ d, d + j < 3 → d + r + j < n → own_rg nw fl fc fb d = own_st f (n - j - 1 - d)) ∧ own_okB t.2.2 ∧ ∀ x, own_okB (fb x)
theorem own_okStep (t : Tri) (ch : Int32) (h : own_okB t.2.2) : own_okB (own_step t ch).2.2 := by
  unfold own_step
  split
  · rfl
  · split
    · dsimp only
      split
      · rfl
      · split <;> rfl
    · exact h
theorem own_minv (kp : Int32) (h : 0 ≤ kp.toInt ∧ kp.toInt ≤ 16) : (own_min (kp + 1) 16).toInt = if kp.toInt + 1 ≤ 16 then kp.toInt + 1 else 16 := by
  have h1 := c_iadd kp 1
  have h2 := rng32 (kp + 1)
  simp only [Int32.reduceToInt] at h1
  unfold own_min
  simp only [Int32.lt_iff_toInt_lt, Int32.reduceToInt]
  split
  · simp only [Int32.reduceToInt]; split <;> omega
  · split <;> omega
theorem own_AI_adv {f : Nat → Int32} {r i : Nat} {nw kp : Int32} {t : Tri} {fl fc fb : Nat → Int32} (A : own_AI f r i nw kp t fl fc fb) (h1 : r = 0 → i < 16) (h2 : i + 1 ≤ 16 + r) :
    own_AI f r (i + 1) ((nw + 1) % 16) (own_min (kp + 1) 16) (own_step t (f i)) (own_upd fl (own_ix ((nw + 1) % 16)) t.1) (own_upd fc (own_ix ((nw + 1) % 16)) t.2.1) (own_upd fb (own_ix ((nw + 1) % 16)) t.2.2) := by
  obtain ⟨a1, a2, a3, a4, a5, a6, a7, a8⟩ := A
  obtain ⟨n1, n2, n3⟩ := own_nwi nw a1
  have m := own_minv kp a2
  refine ⟨by omega, by rw [m]; split <;> omega, by rw [a3]; rfl, fun q => ?_, ?_, fun d hd hr => ?_, own_okStep _ _ a7, fun x => ?_⟩
  · have := a4 q; have := h1 q; rw [m]; split <;> omega
  · rw [m]; split <;> omega
  · by_cases e : d = 0
    · subst e
      have q : (own_ix ((nw + 1) % 16) + 16 - 0) % 16 = own_ix ((nw + 1) % 16) := by omega
      unfold own_rg own_upd
      rw [q, if_pos rfl, if_pos rfl, if_pos rfl]
      show t = own_st f (i + 1 - 1 - 0)
      rw [a3]; rfl
    · have w := (own_nwj nw a1).1
      have q : (own_ix ((nw + 1) % 16) + 16 - d) % 16 = (own_ix nw + 16 - (d - 1)) % 16 := by omega
      have q2 : (own_ix nw + 16 - (d - 1)) % 16 ≠ own_ix ((nw + 1) % 16) := by omega
      have k := a6 (d - 1) (by omega) (by omega)
      unfold own_rg own_upd
      rw [q, if_neg q2, if_neg q2, if_neg q2]
      have e2 : i + 1 - 1 - d = i - 1 - (d - 1) := by omega
      rw [e2]; exact k
  · unfold own_upd
    split
    · exact a7
    · exact a8 x
theorem own_quick {t : Tri} {ch : Int32} (h1 : ¬ ch = 10) (h2 : ¬ ch = 13) (h3 : own_lowS ch = 0) (h4 : own_i2c ch = ch) : own_step t ch = ((if t.2.2 = 0 then t.1 else t.1 + 1), (if t.2.2 = 0 then t.2.1 else 0) + 1, 0) := by
  unfold own_step
  rw [if_neg (fun q => h1 q.1), if_pos (Or.inr (by rw [h4]; exact h3)), if_neg h1, if_neg h2]
theorem own_AI_quick {f : Nat → Int32} {r i : Nat} {nw kp : Int32} {t : Tri} {fl fc fb : Nat → Int32} (A : own_AI f r i nw kp t fl fc fb) (h : i + 1 ≤ r) (h1 : ¬ f i = 10) (h2 : ¬ f i = 13) (h3 : own_lowS (f i) = 0) (h4 : own_i2c (f i) = f i) (t' : Tri) (ht : t' = ((if t.2.2 = 0 then t.1 else t.1 + 1), (if t.2.2 = 0 then t.2.1 else 0) + 1, 0)) :
    own_AI f r (i + 1) nw kp t' fl fc fb := by
  obtain ⟨a1, a2, a3, a4, a5, a6, a7, a8⟩ := A
  have e : t' = own_st f (i + 1) := by rw [ht, ← own_quick h1 h2 h3 h4, a3]; rfl
  exact ⟨a1, a2, e, fun q => by omega, by omega, fun d hd hr => by omega, by rw [ht]; rfl, a8⟩
theorem own_AI_zero (f : Nat → Int32) (r : Nat) : own_AI f r 0 0 0 (1, 0, 0) (fun _ => 0) (fun _ => 0) (fun _ => 0) :=
  ⟨by decide, by decide, rfl, fun _ => rfl, by simp only [Int32.reduceToInt]; omega, fun d hd hr => by omega, rfl, fun _ => rfl⟩
theorem own_BI_of {f : Nat → Int32} {n : Nat} {nw kp : Int32} {t : Tri} {fl fc fb : Nat → Int32} (A : own_AI f (n - 16) n nw kp t fl fc fb) : own_BI f n (n - 16) 0 nw kp t fl fc fb := by
  obtain ⟨a1, a2, a3, a4, a5, a6, a7, a8⟩ := A
  exact ⟨a1, a2, a3, fun q => by have := a4 q; omega, fun q => by omega, fun d hd hr => a6 d (by omega) (by omega), a7, a8⟩
theorem own_BI_step {f : Nat → Int32} {n r j : Nat} {nw kp : Int32} {t : Tri} {fl fc fb : Nat → Int32} (A : own_BI f n r j nw kp t fl fc fb) (hj : j < 3) (hr : 0 < r → 16 + r ≤ n) : own_BI f n r (j + 1) (own_sbN kp nw) (own_sbK kp) (own_sbT kp nw t fl fc fb) fl fc fb := by
  obtain ⟨a1, a2, a3, a4, a5, a6, a7, a8⟩ := A
  by_cases k0 : kp = 0
  · have z : kp.toInt = 0 := by rw [k0]; rfl
    rw [own_sbN, own_sbK, own_sbT, if_pos k0, if_pos k0, if_pos k0]
    have r0 : r = 0 := by
      rcases Nat.eq_zero_or_pos r with q | q
      · exact q
      · have := a5 q; omega
    have e := a4 r0
    refine ⟨a1, a2, ?_, fun q => by omega, fun q => by omega, fun d hd hr => by omega, a7, a8⟩
    rw [a3]; congr 1; omega
  · rw [own_sbN, own_sbK, own_sbT, if_neg k0, if_neg k0, if_neg k0]
    have z : kp.toInt ≠ 0 := fun q => k0 (Int32.toInt_inj.mp q)
    have h1 := c_iadd nw 16
    have h2 := rng32 (nw + 16)
    have h3 := c_isub (nw + 16) 1
    have h4 := rng32 (nw + 16 - 1)
    have h5 := c_isub kp 1
    have h6 := rng32 (kp - 1)
    simp only [Int32.reduceToInt] at h1 h3 h5
    have h7 := (c_irem (nw + 16 - 1) 16 16 rfl).1 (by omega)
    have w := (own_nwj nw a1)
    have ix : own_ix ((nw + 16 - 1) % 16) = (own_ix nw + 15) % 16 := by unfold own_ix at *; omega
    have nj : 0 + r + j < n := by
      rcases Nat.eq_zero_or_pos r with q | q
      · have := a4 q; omega
      · have := hr q; omega
    have top := a6 0 (by omega) nj
    have tx : (own_ix nw + 16 - 0) % 16 = own_ix nw := by omega
    unfold own_rg at top
    rw [tx] at top
    refine ⟨by omega, by omega, ?_, fun q => by have := a4 q; omega, fun q => by have := a5 q; omega, fun d hd hr => ?_, a8 _, a8⟩
    · rw [top]; congr 1
    · have k := a6 (d + 1) (by omega) (by omega)
      unfold own_rg at k ⊢
      have q : (own_ix ((nw + 16 - 1) % 16) + 16 - d) % 16 = (own_ix nw + 16 - (d + 1)) % 16 := by rw [ix]; omega
      rw [q, k]; congr 1; omega
theorem own_n21 (x : Int32) : ∃ n : Nat, ((x &&& 2147483647) % 21).toInt = (n : Int) ∧ n ≤ 20 := by
  have h1 := (c_and x 2147483647 (by decide)).1
  have h2 := (c_irem (x &&& 2147483647) 21 21 rfl).1 h1
  exact ⟨((x &&& 2147483647) % 21).toInt.toNat, by omega, by omega⟩
theorem own_four (x : Int32) : x &&& 3 = 0 ∨ x &&& 3 = 1 ∨ x &&& 3 = 2 ∨ x &&& 3 = 3 := by
  have h1 := c_and x 3 (by decide)
  simp only [Int32.reduceToInt] at h1
  simp only [← Int32.toInt_inj, Int32.reduceToInt]
  omega
theorem own_mm (n k : Int32) (nN kN : Nat) (h1 : n.toInt = (nN : Int)) (h2 : nN ≤ 20) (h3 : k.toInt = (kN : Int)) (h4 : kN ≤ 3) : (own_max (n - k) 0).toInt = ((nN - kN : Nat) : Int) := by
  have h5 := c_isub n k
  have h6 := rng32 (n - k)
  unfold own_max
  simp only [Int32.lt_iff_toInt_lt, Int32.reduceToInt]
  split
  · simp only [Int32.reduceToInt]; omega
  · omega
theorem own_rr (n : Int32) (nN : Nat) (h1 : n.toInt = (nN : Int)) (h2 : nN ≤ 20) : (own_max 0 (n - 16)).toInt = ((nN - 16 : Nat) : Int) := by
  have h5 := c_isub n 16
  have h6 := rng32 (n - 16)
  simp only [Int32.reduceToInt] at h5
  unfold own_max
  simp only [Int32.lt_iff_toInt_lt, Int32.reduceToInt]
  split
  · omega
  · simp only [Int32.reduceToInt]; omega
theorem own_inc (x : Int32) (i : Nat) (h : x.toInt = (i : Int)) (h2 : i ≤ 20) : (x + 1).toInt = ((i + 1 : Nat) : Int) := by
  have h5 := c_iadd x 1
  have h6 := rng32 (x + 1)
  simp only [Int32.reduceToInt] at h5
  omega
set_option maxRecDepth 65536 in
set_option maxHeartbeats 4000000 in
theorem rm5 (l : Launch) (Z : State) (a0 : Array Value) (hw : Hw a0 Z) (a : Addr) (b : Addr) (n : Int32) (la ca ba : Addr) (f : Nat → Int32) (nN : Nat) (h0 : Heap) (n0 : Nat) (Z0 : n0 ≤ h0.size) (P0 : own_Pos Z h0 a la ca ba 0 0 (1, 0, 0) (fun _ => 0) (fun _ => 0) (fun _ => 0)) (NE : own_Ne n0 a la ca ba) (Ab : Af Z h0 b .char 20 (fun i => .int (f i))) (hf : ∀ i, own_i2c (f i) = f i) (hb : b ∉ [a, la, ca, ba]) (hn : n.toInt = (nN : Int)) (hn20 : nN ≤ 20) :
    Ct l Z K5 #[(.ref a), (.ref b), (.int (0 : Int32)), (.int n)] h0 n0 (fun v h => v = none ∧ Keep h0 h [a, la, ca, ba] ∧ ∃ (nw kp : Int32) (t : Tri) (fl fc fb : Nat → Int32), own_Pos Z h a la ca ba nw kp t fl fc fb ∧ own_AI f (nN - 16) nN nw kp t fl fc fb) := by
  refine Ct.of (Ls := #[.val (.ref a), .val (.ref b), .val (.int (0 : Int32)), .val (.int n), .unset, .unset, .unset]) (plainFor_of_name (by first | decide +kernel | (simp [plainName, overriddenIn]; done))) (fun m => by first | rfl | (simp [entryFrame, mkF, argsToLocals, Value.category]; done)) ?_
  intro E T W
  have NE' := NE
  obtain ⟨ne0, ne1, ne2, ne3, ne4, ne5, ge0, ge1, ge2, ge3⟩ := NE'
  have hrr := own_rr n nN hn hn20
  have nb0 : b ≠ a := fun q => hb (by simp [q])
  have nb1 : b ≠ la := fun q => hb (by simp [q])
  have nb2 : b ≠ ca := fun q => hb (by simp [q])
  have nb3 : b ≠ ba := fun q => hb (by simp [q])
  refine go_iloadN (pc' := 1) W d5_0 rfl rfl ?_
  refine go_iloadN (pc' := 2) W d5_1 rfl rfl ?_
  refine go_bipush (pc' := 4) (z := 16) W d5_2 (by decide) rfl ?_
  refine go_isub (pc' := 5) W d5_4 rfl ?_
  refine go_callS (kc := K2) (argsL := [(.int (0 : Int32)), (.int (n - (16 : Int32)))]) (rest := []) (pc' := 8) W (w37 hw) (w8 hw) (w9 hw) (w10 hw) (rm2 E.l Z a0 hw (0 : Int32) (n - (16 : Int32)) h0 n0 Z0) (by decide) pd0 rfl rfl rfl (nb rfl) (nb rfl) (nb rfl) (nb rfl) d5_5 rfl ?_
  rintro _ T828 h828 ⟨rfl, q828⟩ W828
  replace W828 := W828.sub q828
  show Go E _ (Fm E T828 8 #[.val (.ref a), .val (.ref b), .val (.int (0 : Int32)), .val (.int n), .unset, .unset, .unset] [(.int (own_max (0 : Int32) (n - (16 : Int32))))])
  refine go_istore (pc' := 10) (l' := #[.val (.ref a), .val (.ref b), .val (.int (0 : Int32)), .val (.int n), .val (.int (own_max (0 : Int32) (n - (16 : Int32)))), .unset, .unset]) W828 d5_8 rfl rfl ?_
  refine go_iloadN (pc' := 11) W828 d5_10 rfl rfl ?_
  refine go_istore (pc' := 13) (l' := #[.val (.ref a), .val (.ref b), .val (.int (0 : Int32)), .val (.int n), .val (.int (own_max (0 : Int32) (n - (16 : Int32)))), .val (.int (0 : Int32)), .unset]) W828 d5_11 rfl rfl ?_
  have L2 : ∀ (j i : Nat) (x5 : Int32) (s6 : Slot) (T : State) (h : Heap) (nw kp : Int32) (t : Tri) (fl fc fb : Nat → Int32) (h5 : x5.toInt = (i : Int)) (hij : i + j = nN) (o6 : One s6) (W : On K5 Z n0 E T h 0 0) (K : Keep h0 h [a, la, ca, ba]) (P1 : own_Pos Z h a la ca ba nw kp t fl fc fb) (AI : own_AI f (nN - 16) i nw kp t fl fc fb) (hri : nN - 16 ≤ i), Go E (EndQ E.s n0 (fun v h => v = none ∧ Keep h0 h [a, la, ca, ba] ∧ ∃ (nw kp : Int32) (t : Tri) (fl fc fb : Nat → Int32), own_Pos Z h a la ca ba nw kp t fl fc fb ∧ own_AI f (nN - 16) nN nw kp t fl fc fb) K5.rm.cells K5.rm.slots) (Fm E T 104 #[.val (.ref a), .val (.ref b), .val (.int (0 : Int32)), .val (.int n), .val (.int (own_max (0 : Int32) (n - (16 : Int32)))), .val (.int x5), s6] []) := by
    intro j
    induction j with
    | zero =>
      intro i x5 s6 T h nw kp t fl fc fb h5 hij o6 W K P1 AI hri
      refine go_iload (pc' := 106) W d5_104 rfl rfl ?_
      refine go_iloadN (pc' := 107) W d5_106 rfl rfl ?_
      refine go_icmp_ge (pt := 124) (pf := 110) W d5_107 (by decide) rfl rfl (fun c107_829 => ?_) (fun c107_829 => ?_)
      · -- pc 107 taken
        exact go_retV W rfl d5_124 (nb rfl) (nb rfl) (by
            obtain rfl : i = nN := by omega
            exact ⟨rfl, K, nw, kp, t, fl, fc, fb, P1, AI⟩)
      · exact absurd c107_829 (by rw [Int32.lt_iff_toInt_lt]; omega)
    | succ j ih =>
      intro i x5 s6 T h nw kp t fl fc fb h5 hij o6 W K P1 AI hri
      have Ab' := Ab.keep K hb
      refine go_iload (pc' := 106) W d5_104 rfl rfl ?_
      refine go_iloadN (pc' := 107) W d5_106 rfl rfl ?_
      refine go_icmp_ge (pt := 124) (pf := 110) W d5_107 (by decide) rfl rfl (fun c107_830 => ?_) (fun c107_830 => ?_)
      · exact absurd (by rw [Int32.lt_iff_toInt_lt]; omega) c107_830
      · -- pc 107 not taken
        refine go_aloadN (pc' := 111) W d5_110 rfl rfl rfl ?_
        refine go_aloadN (pc' := 112) W d5_111 rfl rfl rfl ?_
        refine go_iload (pc' := 114) W d5_112 rfl rfl ?_
        refine go_caloadF (pc' := 115) (i := i) (v := (.int (f i))) W Ab' h5 (by omega) rfl d5_114 rfl ?_
        refine go_callV (a := a) (kc := K6) (argsL := [(.int (f i))]) (rest := []) (pc' := 118) W (w38 hw) (w39 hw) (nf_sel W (w41 hw)) (w41 hw) (w40 hw) (w13 hw) (w42 hw) P1.1 (rm6 E.l Z a0 hw a (f i) la ca ba nw kp t fl fc fb h n0 (Nat.le_trans Z0 K.1) P1 NE AI.1 AI.2.2.2.2.2.2.1) (by decide) pd2 rfl rfl rfl (nb rfl) (nb rfl) (nb rfl) (nb rfl) d5_115 rfl ?_
        rintro _ T831 h831 ⟨rfl, K831, P831⟩ W831
        have k831 := K.trans K831 (fun x hx => Or.inl hx)
        show Go E _ (Fm E T831 118 #[.val (.ref a), .val (.ref b), .val (.int (0 : Int32)), .val (.int n), .val (.int (own_max (0 : Int32) (n - (16 : Int32)))), .val (.int x5), s6] [])
        refine go_iinc (pc' := 121) (z := (x5 + (1 : Int32))) (l' := #[.val (.ref a), .val (.ref b), .val (.int (0 : Int32)), .val (.int n), .val (.int (own_max (0 : Int32) (n - (16 : Int32)))), .val (.int (x5 + (1 : Int32))), s6]) W831 d5_118 rfl rfl rfl rfl ?_
        refine go_goto (pc' := 104) W831 d5_121 (by decide) rfl ?_
        exact ih (i + 1) _ _ _ _ _ _ _ _ _ _ (own_inc _ _ h5 (by omega)) (by omega) o6 W831 k831 P831 (own_AI_adv AI (fun q => by omega) (by omega)) (by omega)
  have L1 : ∀ (j i : Nat) (x5 : Int32) (s6 : Slot) (T : State) (h : Heap) (nw kp : Int32) (t : Tri) (fl fc fb : Nat → Int32) (h5 : x5.toInt = (i : Int)) (hij : i + j = (nN - 16)) (o6 : One s6) (W : On K5 Z n0 E T h 0 0) (K : Keep h0 h [a, la, ca, ba]) (P1 : own_Pos Z h a la ca ba nw kp t fl fc fb) (AI : own_AI f (nN - 16) i nw kp t fl fc fb), Go E (EndQ E.s n0 (fun v h => v = none ∧ Keep h0 h [a, la, ca, ba] ∧ ∃ (nw kp : Int32) (t : Tri) (fl fc fb : Nat → Int32), own_Pos Z h a la ca ba nw kp t fl fc fb ∧ own_AI f (nN - 16) nN nw kp t fl fc fb) K5.rm.cells K5.rm.slots) (Fm E T 13 #[.val (.ref a), .val (.ref b), .val (.int (0 : Int32)), .val (.int n), .val (.int (own_max (0 : Int32) (n - (16 : Int32)))), .val (.int x5), s6] []) := by
    intro j
    induction j with
    | zero =>
      intro i x5 s6 T h nw kp t fl fc fb h5 hij o6 W K P1 AI
      refine go_iload (pc' := 15) W d5_13 rfl rfl ?_
      refine go_iload (pc' := 17) W d5_15 rfl rfl ?_
      refine go_icmp_ge (pt := 100) (pf := 20) W d5_17 (by decide) rfl rfl (fun c17_832 => ?_) (fun c17_832 => ?_)
      · -- pc 17 taken
        refine go_iload (pc' := 102) W d5_100 rfl rfl ?_
        refine go_istore (pc' := 104) (l' := #[.val (.ref a), .val (.ref b), .val (.int (0 : Int32)), .val (.int n), .val (.int (own_max (0 : Int32) (n - (16 : Int32)))), .val (.int (own_max (0 : Int32) (n - (16 : Int32)))), s6]) W d5_102 rfl rfl ?_
        exact L2 (nN - i) i _ _ _ _ _ _ _ _ _ _ (by rw [hrr]; omega) (by omega) o6 W K P1 AI (by omega)
      · exact absurd c17_832 (by rw [Int32.lt_iff_toInt_lt, hrr]; omega)
    | succ j ih =>
      intro i x5 s6 T h nw kp t fl fc fb h5 hij o6 W K P1 AI
      have Ab' := Ab.keep K hb
      have P2 := P1
      obtain ⟨Ea, F0, F1, F2, F3, F4, F5, F6, F7, A0, A1, A2⟩ := P2
      refine go_iload (pc' := 15) W d5_13 rfl rfl ?_
      refine go_iload (pc' := 17) W d5_15 rfl rfl ?_
      refine go_icmp_ge (pt := 100) (pf := 20) W d5_17 (by decide) rfl rfl (fun c17_833 => ?_) (fun c17_833 => ?_)
      · exact absurd (by rw [Int32.lt_iff_toInt_lt, hrr]; omega) c17_833
      · -- pc 17 not taken
        refine go_aloadN (pc' := 21) W d5_20 rfl rfl rfl ?_
        refine go_iload (pc' := 23) W d5_21 rfl rfl ?_
        refine go_caloadF (pc' := 24) (i := i) (v := (.int (f i))) W Ab' h5 (by omega) rfl d5_23 rfl ?_
        refine go_istore (pc' := 26) (l' := #[.val (.ref a), .val (.ref b), .val (.int (0 : Int32)), .val (.int n), .val (.int (own_max (0 : Int32) (n - (16 : Int32)))), .val (.int x5), .val (.int (f i))]) W d5_24 (XS.store1 rfl o6 rfl) rfl ?_
        refine go_iload (pc' := 28) W d5_26 rfl rfl ?_
        refine go_bipush (pc' := 30) (z := 10) W d5_28 (by decide) rfl ?_
        refine go_icmp_eq (pt := 48) (pf := 33) W d5_30 (by decide) rfl rfl (fun c30_834 => ?_) (fun c30_834 => ?_)
        · -- pc 30 taken
          refine go_aloadN (pc' := 49) W d5_48 rfl rfl rfl ?_
          refine go_iload (pc' := 51) W d5_49 rfl rfl ?_
          refine go_callV (a := a) (kc := K6) (argsL := [(.int (f i))]) (rest := []) (pc' := 54) W (w38 hw) (w39 hw) (nf_sel W (w41 hw)) (w41 hw) (w40 hw) (w13 hw) (w42 hw) Ea (rm6 E.l Z a0 hw a (f i) la ca ba nw kp t fl fc fb h n0 (Nat.le_trans Z0 K.1) P1 NE AI.1 AI.2.2.2.2.2.2.1) (by decide) pd2 rfl rfl rfl (nb rfl) (nb rfl) (nb rfl) (nb rfl) d5_51 rfl ?_
          rintro _ T835 h835 ⟨rfl, K835, P835⟩ W835
          have k835 := K.trans K835 (fun x hx => Or.inl hx)
          show Go E _ (Fm E T835 54 #[.val (.ref a), .val (.ref b), .val (.int (0 : Int32)), .val (.int n), .val (.int (own_max (0 : Int32) (n - (16 : Int32)))), .val (.int x5), .val (.int (f i))] [])
          refine go_goto (pc' := 94) W835 d5_54 (by decide) rfl ?_
          refine go_iinc (pc' := 97) (z := (x5 + (1 : Int32))) (l' := #[.val (.ref a), .val (.ref b), .val (.int (0 : Int32)), .val (.int n), .val (.int (own_max (0 : Int32) (n - (16 : Int32)))), .val (.int (x5 + (1 : Int32))), .val (.int (f i))]) W835 d5_94 rfl rfl rfl rfl ?_
          refine go_goto (pc' := 13) W835 d5_97 (by decide) rfl ?_
          exact ih (i + 1) _ _ _ _ _ _ _ _ _ _ (own_inc _ _ h5 (by omega)) (by omega) (One.val rfl) W835 k835 P835 (own_AI_adv AI (fun q => by omega) (by omega))
        · -- pc 30 not taken
          refine go_iload (pc' := 35) W d5_33 rfl rfl ?_
          refine go_bipush (pc' := 37) (z := 13) W d5_35 (by decide) rfl ?_
          refine go_icmp_eq (pt := 48) (pf := 40) W d5_37 (by decide) rfl rfl (fun c37_836 => ?_) (fun c37_836 => ?_)
          · -- pc 37 taken
            refine go_aloadN (pc' := 49) W d5_48 rfl rfl rfl ?_
            refine go_iload (pc' := 51) W d5_49 rfl rfl ?_
            refine go_callV (a := a) (kc := K6) (argsL := [(.int (f i))]) (rest := []) (pc' := 54) W (w38 hw) (w39 hw) (nf_sel W (w41 hw)) (w41 hw) (w40 hw) (w13 hw) (w42 hw) Ea (rm6 E.l Z a0 hw a (f i) la ca ba nw kp t fl fc fb h n0 (Nat.le_trans Z0 K.1) P1 NE AI.1 AI.2.2.2.2.2.2.1) (by decide) pd2 rfl rfl rfl (nb rfl) (nb rfl) (nb rfl) (nb rfl) d5_51 rfl ?_
            rintro _ T837 h837 ⟨rfl, K837, P837⟩ W837
            have k837 := K.trans K837 (fun x hx => Or.inl hx)
            show Go E _ (Fm E T837 54 #[.val (.ref a), .val (.ref b), .val (.int (0 : Int32)), .val (.int n), .val (.int (own_max (0 : Int32) (n - (16 : Int32)))), .val (.int x5), .val (.int (f i))] [])
            refine go_goto (pc' := 94) W837 d5_54 (by decide) rfl ?_
            refine go_iinc (pc' := 97) (z := (x5 + (1 : Int32))) (l' := #[.val (.ref a), .val (.ref b), .val (.int (0 : Int32)), .val (.int n), .val (.int (own_max (0 : Int32) (n - (16 : Int32)))), .val (.int (x5 + (1 : Int32))), .val (.int (f i))]) W837 d5_94 rfl rfl rfl rfl ?_
            refine go_goto (pc' := 13) W837 d5_97 (by decide) rfl ?_
            exact ih (i + 1) _ _ _ _ _ _ _ _ _ _ (own_inc _ _ h5 (by omega)) (by omega) (One.val rfl) W837 k837 P837 (own_AI_adv AI (fun q => by omega) (by omega))
          · -- pc 37 not taken
            refine go_iload (pc' := 42) W d5_40 rfl rfl ?_
            refine go_callS (kc := K8) (argsL := [(.int (f i))]) (rest := []) (pc' := 45) W (w53 hw) (w54 hw) (w55 hw) (w56 hw) (rm8 E.l Z a0 hw (f i) h n0 (Nat.le_trans Z0 K.1)) (by decide) pd1 rfl rfl rfl (nb rfl) (nb rfl) (nb rfl) (nb rfl) d5_42 rfl ?_
            rintro _ T838 h838 ⟨rfl, q838⟩ W838
            replace W838 := W838.sub q838
            show Go E _ (Fm E T838 45 #[.val (.ref a), .val (.ref b), .val (.int (0 : Int32)), .val (.int n), .val (.int (own_max (0 : Int32) (n - (16 : Int32)))), .val (.int x5), .val (.int (f i))] [(.int (own_lowS (f i)))])
            refine go_if_eq (pt := 57) (pf := 48) W838 d5_45 (by decide) rfl rfl (fun c45_839 => ?_) (fun c45_839 => ?_)
            · -- pc 45 taken
              refine go_aloadN (pc' := 58) W838 d5_57 rfl rfl rfl ?_
              refine go_getF (pc' := 61) W838 (host := "") (Or.inl (w30 hw)) Via.refl F7 d5_58 rfl ?_
              intro T840 W840
              refine go_if_eq (pt := 84) (pf := 64) W840 d5_61 (by decide) rfl rfl (fun c61_841 => ?_) (fun c61_841 => ?_)
              · -- pc 61 taken
                refine go_aloadN (pc' := 85) W840 d5_84 rfl rfl rfl ?_
                refine go_dup (pc' := 86) W840 d5_85 rfl rfl ?_
                refine go_getF (pc' := 89) W840 (host := "") (Or.inl (w45 hw)) Via.refl F6 d5_86 rfl ?_
                intro T842 W842
                refine go_iconst (pc' := 90) (z := 1) W842 d5_89 rfl rfl ?_
                refine go_iadd (pc' := 91) W842 d5_90 rfl ?_
                refine go_putF (pc' := 94) W842 (host := "") (Or.inl (w45 hw)) Via.refl F6 Ea (Or.inl (w46 hw)) (w12 hw) (ty := .int) (by decide) rfl rfl ge0 d5_91 rfl ?_
                intro T843 h843 W843 R843
                have f844 := Ea.wr R843
                have f845 := F0.other R843 (Or.inr (slot_ne (Or.inr (w22 hw)) (Or.inl (w46 hw)) (by decide) (t := (.array .int)) (t' := .int) (by decide) (by decide)))
                have f846 := F1.other R843 (Or.inr (slot_ne (Or.inr (w24 hw)) (Or.inl (w46 hw)) (by decide) (t := (.array .int)) (t' := .int) (by decide) (by decide)))
                have f847 := F2.other R843 (Or.inr (slot_ne (Or.inr (w27 hw)) (Or.inl (w46 hw)) (by decide) (t := (.array .byte)) (t' := .int) (by decide) (by decide)))
                have f848 := F3.other R843 (Or.inr (slot_ne (Or.inl (w44 hw)) (Or.inl (w46 hw)) (by decide) (t := .int) (t' := .int) (by decide) (by decide)))
                have f849 := F4.other R843 (Or.inr (slot_ne (Or.inl (w48 hw)) (Or.inl (w46 hw)) (by decide) (t := .int) (t' := .int) (by decide) (by decide)))
                have f850 := F5.other R843 (Or.inr (slot_ne (Or.inl (w29 hw)) (Or.inl (w46 hw)) (by decide) (t := .int) (t' := .int) (by decide) (by decide)))
                have f851 := F6.same R843
                have f852 := F7.other R843 (Or.inr (slot_ne (Or.inl (w31 hw)) (Or.inl (w46 hw)) (by decide) (t := .byte) (t' := .int) (by decide) (by decide)))
                have f853 := A0.other R843 (Ne.symm ne0)
                have f854 := A1.other R843 (Ne.symm ne1)
                have f855 := A2.other R843 (Ne.symm ne2)
                have f856 := Ab'.other R843 nb0
                have k857 := K.wr R843 (Or.inl (by simp))
                have z858 := Nat.le_trans (Nat.le_trans Z0 K.1) (Keep.of_wr R843).1
                refine go_iinc (pc' := 97) (z := (x5 + (1 : Int32))) (l' := #[.val (.ref a), .val (.ref b), .val (.int (0 : Int32)), .val (.int n), .val (.int (own_max (0 : Int32) (n - (16 : Int32)))), .val (.int (x5 + (1 : Int32))), .val (.int (f i))]) W843 d5_94 rfl rfl rfl rfl ?_
                refine go_goto (pc' := 13) W843 d5_97 (by decide) rfl ?_
                exact ih (i + 1) _ _ _ _ _ _ (t.1, (t.2.1 + (1 : Int32)), t.2.2) _ _ _ (own_inc _ _ h5 (by omega)) (by omega) (One.val rfl) W843 k857 ⟨f844, f845, f846, f847, f848, f849, f850, f851, f852, f853, f854, f855⟩ (own_AI_quick AI (by omega) c30_834 c37_836 c45_839 (hf i) (t.1, (t.2.1 + (1 : Int32)), t.2.2) (by simp [c61_841]))
              · -- pc 61 not taken
                refine go_aloadN (pc' := 65) W840 d5_64 rfl rfl rfl ?_
                refine go_dup (pc' := 66) W840 d5_65 rfl rfl ?_
                refine go_getF (pc' := 69) W840 (host := "") (Or.inl (w28 hw)) Via.refl F5 d5_66 rfl ?_
                intro T859 W859
                refine go_iconst (pc' := 70) (z := 1) W859 d5_69 rfl rfl ?_
                refine go_iadd (pc' := 71) W859 d5_70 rfl ?_
                refine go_putF (pc' := 74) W859 (host := "") (Or.inl (w28 hw)) Via.refl F5 Ea (Or.inl (w29 hw)) (w12 hw) (ty := .int) (by decide) rfl rfl ge0 d5_71 rfl ?_
                intro T860 h860 W860 R860
                have f861 := Ea.wr R860
                have f862 := F0.other R860 (Or.inr (slot_ne (Or.inr (w22 hw)) (Or.inl (w29 hw)) (by decide) (t := (.array .int)) (t' := .int) (by decide) (by decide)))
                have f863 := F1.other R860 (Or.inr (slot_ne (Or.inr (w24 hw)) (Or.inl (w29 hw)) (by decide) (t := (.array .int)) (t' := .int) (by decide) (by decide)))
                have f864 := F2.other R860 (Or.inr (slot_ne (Or.inr (w27 hw)) (Or.inl (w29 hw)) (by decide) (t := (.array .byte)) (t' := .int) (by decide) (by decide)))
                have f865 := F3.other R860 (Or.inr (slot_ne (Or.inl (w44 hw)) (Or.inl (w29 hw)) (by decide) (t := .int) (t' := .int) (by decide) (by decide)))
                have f866 := F4.other R860 (Or.inr (slot_ne (Or.inl (w48 hw)) (Or.inl (w29 hw)) (by decide) (t := .int) (t' := .int) (by decide) (by decide)))
                have f867 := F5.same R860
                have f868 := F6.other R860 (Or.inr (slot_ne (Or.inl (w46 hw)) (Or.inl (w29 hw)) (by decide) (t := .int) (t' := .int) (by decide) (by decide)))
                have f869 := F7.other R860 (Or.inr (slot_ne (Or.inl (w31 hw)) (Or.inl (w29 hw)) (by decide) (t := .byte) (t' := .int) (by decide) (by decide)))
                have f870 := A0.other R860 (Ne.symm ne0)
                have f871 := A1.other R860 (Ne.symm ne1)
                have f872 := A2.other R860 (Ne.symm ne2)
                have f873 := Ab'.other R860 nb0
                have k874 := K.wr R860 (Or.inl (by simp))
                have z875 := Nat.le_trans (Nat.le_trans Z0 K.1) (Keep.of_wr R860).1
                refine go_aloadN (pc' := 75) W860 d5_74 rfl rfl rfl ?_
                refine go_iconst (pc' := 76) (z := 0) W860 d5_75 rfl rfl ?_
                refine go_putF (pc' := 79) W860 (host := "") (Or.inl (w45 hw)) Via.refl f868 f861 (Or.inl (w46 hw)) (w12 hw) (ty := .int) (by decide) rfl rfl ge0 d5_76 rfl ?_
                intro T876 h876 W876 R876
                have f877 := f861.wr R876
                have f878 := f862.other R876 (Or.inr (slot_ne (Or.inr (w22 hw)) (Or.inl (w46 hw)) (by decide) (t := (.array .int)) (t' := .int) (by decide) (by decide)))
                have f879 := f863.other R876 (Or.inr (slot_ne (Or.inr (w24 hw)) (Or.inl (w46 hw)) (by decide) (t := (.array .int)) (t' := .int) (by decide) (by decide)))
                have f880 := f864.other R876 (Or.inr (slot_ne (Or.inr (w27 hw)) (Or.inl (w46 hw)) (by decide) (t := (.array .byte)) (t' := .int) (by decide) (by decide)))
                have f881 := f865.other R876 (Or.inr (slot_ne (Or.inl (w44 hw)) (Or.inl (w46 hw)) (by decide) (t := .int) (t' := .int) (by decide) (by decide)))
                have f882 := f866.other R876 (Or.inr (slot_ne (Or.inl (w48 hw)) (Or.inl (w46 hw)) (by decide) (t := .int) (t' := .int) (by decide) (by decide)))
                have f883 := f867.other R876 (Or.inr (slot_ne (Or.inl (w29 hw)) (Or.inl (w46 hw)) (by decide) (t := .int) (t' := .int) (by decide) (by decide)))
                have f884 := f868.same R876
                have f885 := f869.other R876 (Or.inr (slot_ne (Or.inl (w31 hw)) (Or.inl (w46 hw)) (by decide) (t := .byte) (t' := .int) (by decide) (by decide)))
                have f886 := f870.other R876 (Ne.symm ne0)
                have f887 := f871.other R876 (Ne.symm ne1)
                have f888 := f872.other R876 (Ne.symm ne2)
                have f889 := f873.other R876 nb0
                have k890 := k874.wr R876 (Or.inl (by simp))
                have z891 := Nat.le_trans z875 (Keep.of_wr R876).1
                refine go_aloadN (pc' := 80) W876 d5_79 rfl rfl rfl ?_
                refine go_iconst (pc' := 81) (z := 0) W876 d5_80 rfl rfl ?_
                refine go_putF (pc' := 84) W876 (host := "") (Or.inl (w30 hw)) Via.refl f885 f877 (Or.inl (w31 hw)) (w12 hw) (ty := .byte) (by decide) rfl rfl ge0 d5_81 rfl ?_
                intro T892 h892 W892 R892
                have f893 := f877.wr R892
                have f894 := f878.other R892 (Or.inr (slot_ne (Or.inr (w22 hw)) (Or.inl (w31 hw)) (by decide) (t := (.array .int)) (t' := .byte) (by decide) (by decide)))
                have f895 := f879.other R892 (Or.inr (slot_ne (Or.inr (w24 hw)) (Or.inl (w31 hw)) (by decide) (t := (.array .int)) (t' := .byte) (by decide) (by decide)))
                have f896 := f880.other R892 (Or.inr (slot_ne (Or.inr (w27 hw)) (Or.inl (w31 hw)) (by decide) (t := (.array .byte)) (t' := .byte) (by decide) (by decide)))
                have f897 := f881.other R892 (Or.inr (slot_ne (Or.inl (w44 hw)) (Or.inl (w31 hw)) (by decide) (t := .int) (t' := .byte) (by decide) (by decide)))
                have f898 := f882.other R892 (Or.inr (slot_ne (Or.inl (w48 hw)) (Or.inl (w31 hw)) (by decide) (t := .int) (t' := .byte) (by decide) (by decide)))
                have f899 := f883.other R892 (Or.inr (slot_ne (Or.inl (w29 hw)) (Or.inl (w31 hw)) (by decide) (t := .int) (t' := .byte) (by decide) (by decide)))
                have f900 := f884.other R892 (Or.inr (slot_ne (Or.inl (w46 hw)) (Or.inl (w31 hw)) (by decide) (t := .int) (t' := .byte) (by decide) (by decide)))
                have f901 := f885.same R892
                have f902 := f886.other R892 (Ne.symm ne0)
                have f903 := f887.other R892 (Ne.symm ne1)
                have f904 := f888.other R892 (Ne.symm ne2)
                have f905 := f889.other R892 nb0
                have k906 := k890.wr R892 (Or.inl (by simp))
                have z907 := Nat.le_trans z891 (Keep.of_wr R892).1
                refine go_aloadN (pc' := 85) W892 d5_84 rfl rfl rfl ?_
                refine go_dup (pc' := 86) W892 d5_85 rfl rfl ?_
                refine go_getF (pc' := 89) W892 (host := "") (Or.inl (w45 hw)) Via.refl f900 d5_86 rfl ?_
                intro T908 W908
                refine go_iconst (pc' := 90) (z := 1) W908 d5_89 rfl rfl ?_
                refine go_iaddZ (pc' := 91) (z := 1) W908 d5_90 (by decide) rfl ?_
                refine go_putF (pc' := 94) W908 (host := "") (Or.inl (w45 hw)) Via.refl f900 f893 (Or.inl (w46 hw)) (w12 hw) (ty := .int) (by decide) rfl rfl ge0 d5_91 rfl ?_
                intro T909 h909 W909 R909
                have f910 := f893.wr R909
                have f911 := f894.other R909 (Or.inr (slot_ne (Or.inr (w22 hw)) (Or.inl (w46 hw)) (by decide) (t := (.array .int)) (t' := .int) (by decide) (by decide)))
                have f912 := f895.other R909 (Or.inr (slot_ne (Or.inr (w24 hw)) (Or.inl (w46 hw)) (by decide) (t := (.array .int)) (t' := .int) (by decide) (by decide)))
                have f913 := f896.other R909 (Or.inr (slot_ne (Or.inr (w27 hw)) (Or.inl (w46 hw)) (by decide) (t := (.array .byte)) (t' := .int) (by decide) (by decide)))
                have f914 := f897.other R909 (Or.inr (slot_ne (Or.inl (w44 hw)) (Or.inl (w46 hw)) (by decide) (t := .int) (t' := .int) (by decide) (by decide)))
                have f915 := f898.other R909 (Or.inr (slot_ne (Or.inl (w48 hw)) (Or.inl (w46 hw)) (by decide) (t := .int) (t' := .int) (by decide) (by decide)))
                have f916 := f899.other R909 (Or.inr (slot_ne (Or.inl (w29 hw)) (Or.inl (w46 hw)) (by decide) (t := .int) (t' := .int) (by decide) (by decide)))
                have f917 := f900.same R909
                have f918 := f901.other R909 (Or.inr (slot_ne (Or.inl (w31 hw)) (Or.inl (w46 hw)) (by decide) (t := .byte) (t' := .int) (by decide) (by decide)))
                have f919 := f902.other R909 (Ne.symm ne0)
                have f920 := f903.other R909 (Ne.symm ne1)
                have f921 := f904.other R909 (Ne.symm ne2)
                have f922 := f905.other R909 nb0
                have k923 := k906.wr R909 (Or.inl (by simp))
                have z924 := Nat.le_trans z907 (Keep.of_wr R909).1
                refine go_iinc (pc' := 97) (z := (x5 + (1 : Int32))) (l' := #[.val (.ref a), .val (.ref b), .val (.int (0 : Int32)), .val (.int n), .val (.int (own_max (0 : Int32) (n - (16 : Int32)))), .val (.int (x5 + (1 : Int32))), .val (.int (f i))]) W909 d5_94 rfl rfl rfl rfl ?_
                refine go_goto (pc' := 13) W909 d5_97 (by decide) rfl ?_
                exact ih (i + 1) _ _ _ _ _ _ ((t.1 + (1 : Int32)), (1 : Int32), (0 : Int32)) _ _ _ (own_inc _ _ h5 (by omega)) (by omega) (One.val rfl) W909 k923 ⟨f910, f911, f912, f913, f914, f915, f916, f917, f918, f919, f920, f921⟩ (own_AI_quick AI (by omega) c30_834 c37_836 c45_839 (hf i) ((t.1 + (1 : Int32)), (1 : Int32), (0 : Int32)) (by simp [c61_841]))
            · -- pc 45 not taken
              refine go_aloadN (pc' := 49) W838 d5_48 rfl rfl rfl ?_
              refine go_iload (pc' := 51) W838 d5_49 rfl rfl ?_
              refine go_callV (a := a) (kc := K6) (argsL := [(.int (f i))]) (rest := []) (pc' := 54) W838 (w38 hw) (w39 hw) (nf_sel W838 (w41 hw)) (w41 hw) (w40 hw) (w13 hw) (w42 hw) Ea (rm6 E.l Z a0 hw a (f i) la ca ba nw kp t fl fc fb h n0 (Nat.le_trans Z0 K.1) P1 NE AI.1 AI.2.2.2.2.2.2.1) (by decide) pd2 rfl rfl rfl (nb rfl) (nb rfl) (nb rfl) (nb rfl) d5_51 rfl ?_
              rintro _ T925 h925 ⟨rfl, K925, P925⟩ W925
              have k925 := K.trans K925 (fun x hx => Or.inl hx)
              show Go E _ (Fm E T925 54 #[.val (.ref a), .val (.ref b), .val (.int (0 : Int32)), .val (.int n), .val (.int (own_max (0 : Int32) (n - (16 : Int32)))), .val (.int x5), .val (.int (f i))] [])
              refine go_goto (pc' := 94) W925 d5_54 (by decide) rfl ?_
              refine go_iinc (pc' := 97) (z := (x5 + (1 : Int32))) (l' := #[.val (.ref a), .val (.ref b), .val (.int (0 : Int32)), .val (.int n), .val (.int (own_max (0 : Int32) (n - (16 : Int32)))), .val (.int (x5 + (1 : Int32))), .val (.int (f i))]) W925 d5_94 rfl rfl rfl rfl ?_
              refine go_goto (pc' := 13) W925 d5_97 (by decide) rfl ?_
              exact ih (i + 1) _ _ _ _ _ _ _ _ _ _ (own_inc _ _ h5 (by omega)) (by omega) (One.val rfl) W925 k925 P925 (own_AI_adv AI (fun q => by omega) (by omega))
  exact L1 (nN - 16) 0 _ _ _ _ _ _ _ _ _ _ rfl (by omega) One.u W828 (Keep.refl _ _) P0 (own_AI_zero _ _)
theorem own_chars {Z : State} {h : Heap} {a : Addr} {f : Nat → Int32} {i : Nat} {x : Int32} (hf : ∀ i, own_i2c (f i) = f i) (A : Af Z h a .char 20 (fun j => if j = i then (.int (nar .char x)) else (fun i => Value.int (f i)) j)) : ∃ g : Nat → Int32, (∀ i, own_i2c (g i) = g i) ∧ Af Z h a .char 20 (fun i => .int (g i)) := by
  refine ⟨fun j => if j = i then own_i2c x else f j, fun j => ?_, A.congr fun j _ => ?_⟩
  · dsimp only; split
    · exact own_i2ci x
    · exact hf j
  · dsimp only; split <;> rfl
set_option maxRecDepth 65536 in
set_option maxHeartbeats 4000000 in
theorem rm0 (l : Launch) (Z : State) (a0 : Array Value) (hw : Hw a0 Z) (x0 : Int64) (x1 : Int64) (x2 : Int64) (x3 : Int32) (x4 : Int32)  (h0 : Heap) (n0 : Nat) (Z0 : n0 ≤ h0.size)  :
    Ct l Z K0 #[(.long x0), (.long x1), (.long x2), (.int x3), (.int x4)] h0 n0 (fun v h => v = some (.int 1)) := by
  refine Ct.of (Ls := #[.val (.long x0), .second, .val (.long x1), .second, .val (.long x2), .second, .val (.int x3), .val (.int x4), .unset, .unset, .unset, .unset, .unset, .unset, .unset]) (plainFor_of_name (by first | decide +kernel | (simp [plainName, overriddenIn]; done))) (fun m => by first | rfl | (simp [entryFrame, mkF, argsToLocals, Value.category]; done)) ?_
  intro E T W
  refine go_bipush (pc' := 2) (z := 20) W d0_0 (by decide) rfl ?_
  refine go_newP (pc' := 4) (aty := .char) W (w0 hw) d0_2 (by decide) 20 (by decide) (by decide) (nb rfl) (nb rfl) rfl ?_
  intro T926 h926 cA926 b926 g926 W926 E926 A926
  have ge927 : n0 ≤ b926 := by rw [g926]; exact Z0
  have g926x := Nat.le_of_eq g926
  have g926y := Nat.le_of_eq (Eq.symm g926)
  have E926x := E926.1
  have z928 := Nat.le_trans Z0 E926.1
  have f929 : Af Z h926 b926 .char 20 (fun _ => (.int (0 : Int32))) := Af.new A926 rfl
  refine go_astore (pc' := 6) (l' := #[.val (.long x0), .second, .val (.long x1), .second, .val (.long x2), .second, .val (.int x3), .val (.int x4), .val (.ref b926), .unset, .unset, .unset, .unset, .unset, .unset]) W926 d0_4 rfl rfl rfl ?_
  have hcZ : ∀ i, own_i2c ((fun _ => 0 : Nat → Int32) i) = (fun _ => 0 : Nat → Int32) i := fun _ => (by decide : own_i2c 0 = 0)
  refine go_aload (pc' := 8) W926 d0_6 rfl rfl rfl ?_
  refine go_iconst (pc' := 9) (z := 0) W926 d0_8 rfl rfl ?_
  refine go_lloadN (pc' := 10) W926 d0_9 rfl rfl ?_
  refine go_iconst (pc' := 11) (z := 0) W926 d0_10 rfl rfl ?_
  refine go_lloadN (pc' := 12) W926 d0_11 rfl rfl ?_
  refine go_iconst (pc' := 13) (z := 0) W926 d0_12 rfl rfl ?_
  refine go_callS (kc := K1) (argsL := [(.long x0), (.int (0 : Int32)), (.long x1), (.int (0 : Int32))]) (rest := [(.int (0 : Int32)), (.ref b926)]) (pc' := 16) W926 (w1 hw) (w2 hw) (w3 hw) (w4 hw) (rm1 E.l Z a0 hw x0 (0 : Int32) x1 (0 : Int32) h926 n0 z928) (by decide) pd3 rfl rfl rfl (nb rfl) (nb rfl) (nb rfl) (nb rfl) d0_13 rfl ?_
  rintro _ T930 h930 ⟨r930, rfl, q930⟩ W930
  replace W930 := W930.sub q930
  show Go E _ (Fm E T930 16 #[.val (.long x0), .second, .val (.long x1), .second, .val (.long x2), .second, .val (.int x3), .val (.int x4), .val (.ref b926), .unset, .unset, .unset, .unset, .unset, .unset] [(.int r930), (.int (0 : Int32)), (.ref b926)])
  refine go_stCF (pc' := 17) (i := 0) W930 f929 (by decide) (by decide) ge927 d0_16 rfl ?_
  intro T931 h931 W931 R931 A931
  have z933 := Nat.le_trans z928 (Keep.of_wr R931).1
  obtain ⟨fc934, hc934, af934⟩ := own_chars hcZ A931
  refine go_aload (pc' := 19) W931 d0_17 rfl rfl rfl ?_
  refine go_iconst (pc' := 20) (z := 1) W931 d0_19 rfl rfl ?_
  refine go_lloadN (pc' := 21) W931 d0_20 rfl rfl ?_
  refine go_iconst (pc' := 22) (z := 1) W931 d0_21 rfl rfl ?_
  refine go_lloadN (pc' := 23) W931 d0_22 rfl rfl ?_
  refine go_iconst (pc' := 24) (z := 1) W931 d0_23 rfl rfl ?_
  refine go_callS (kc := K1) (argsL := [(.long x0), (.int (1 : Int32)), (.long x1), (.int (1 : Int32))]) (rest := [(.int (1 : Int32)), (.ref b926)]) (pc' := 27) W931 (w1 hw) (w2 hw) (w3 hw) (w4 hw) (rm1 E.l Z a0 hw x0 (1 : Int32) x1 (1 : Int32) h931 n0 z933) (by decide) pd3 rfl rfl rfl (nb rfl) (nb rfl) (nb rfl) (nb rfl) d0_24 rfl ?_
  rintro _ T935 h935 ⟨r935, rfl, q935⟩ W935
  replace W935 := W935.sub q935
  show Go E _ (Fm E T935 27 #[.val (.long x0), .second, .val (.long x1), .second, .val (.long x2), .second, .val (.int x3), .val (.int x4), .val (.ref b926), .unset, .unset, .unset, .unset, .unset, .unset] [(.int r935), (.int (1 : Int32)), (.ref b926)])
  refine go_stCF (pc' := 28) (i := 1) W935 af934 (by decide) (by decide) ge927 d0_27 rfl ?_
  intro T936 h936 W936 R936 A936
  have z938 := Nat.le_trans z933 (Keep.of_wr R936).1
  obtain ⟨fc939, hc939, af939⟩ := own_chars hc934 A936
  refine go_aload (pc' := 30) W936 d0_28 rfl rfl rfl ?_
  refine go_iconst (pc' := 31) (z := 2) W936 d0_30 rfl rfl ?_
  refine go_lloadN (pc' := 32) W936 d0_31 rfl rfl ?_
  refine go_iconst (pc' := 33) (z := 2) W936 d0_32 rfl rfl ?_
  refine go_lloadN (pc' := 34) W936 d0_33 rfl rfl ?_
  refine go_iconst (pc' := 35) (z := 2) W936 d0_34 rfl rfl ?_
  refine go_callS (kc := K1) (argsL := [(.long x0), (.int (2 : Int32)), (.long x1), (.int (2 : Int32))]) (rest := [(.int (2 : Int32)), (.ref b926)]) (pc' := 38) W936 (w1 hw) (w2 hw) (w3 hw) (w4 hw) (rm1 E.l Z a0 hw x0 (2 : Int32) x1 (2 : Int32) h936 n0 z938) (by decide) pd3 rfl rfl rfl (nb rfl) (nb rfl) (nb rfl) (nb rfl) d0_35 rfl ?_
  rintro _ T940 h940 ⟨r940, rfl, q940⟩ W940
  replace W940 := W940.sub q940
  show Go E _ (Fm E T940 38 #[.val (.long x0), .second, .val (.long x1), .second, .val (.long x2), .second, .val (.int x3), .val (.int x4), .val (.ref b926), .unset, .unset, .unset, .unset, .unset, .unset] [(.int r940), (.int (2 : Int32)), (.ref b926)])
  refine go_stCF (pc' := 39) (i := 2) W940 af939 (by decide) (by decide) ge927 d0_38 rfl ?_
  intro T941 h941 W941 R941 A941
  have z943 := Nat.le_trans z938 (Keep.of_wr R941).1
  obtain ⟨fc944, hc944, af944⟩ := own_chars hc939 A941
  refine go_aload (pc' := 41) W941 d0_39 rfl rfl rfl ?_
  refine go_iconst (pc' := 42) (z := 3) W941 d0_41 rfl rfl ?_
  refine go_lloadN (pc' := 43) W941 d0_42 rfl rfl ?_
  refine go_iconst (pc' := 44) (z := 3) W941 d0_43 rfl rfl ?_
  refine go_lloadN (pc' := 45) W941 d0_44 rfl rfl ?_
  refine go_iconst (pc' := 46) (z := 3) W941 d0_45 rfl rfl ?_
  refine go_callS (kc := K1) (argsL := [(.long x0), (.int (3 : Int32)), (.long x1), (.int (3 : Int32))]) (rest := [(.int (3 : Int32)), (.ref b926)]) (pc' := 49) W941 (w1 hw) (w2 hw) (w3 hw) (w4 hw) (rm1 E.l Z a0 hw x0 (3 : Int32) x1 (3 : Int32) h941 n0 z943) (by decide) pd3 rfl rfl rfl (nb rfl) (nb rfl) (nb rfl) (nb rfl) d0_46 rfl ?_
  rintro _ T945 h945 ⟨r945, rfl, q945⟩ W945
  replace W945 := W945.sub q945
  show Go E _ (Fm E T945 49 #[.val (.long x0), .second, .val (.long x1), .second, .val (.long x2), .second, .val (.int x3), .val (.int x4), .val (.ref b926), .unset, .unset, .unset, .unset, .unset, .unset] [(.int r945), (.int (3 : Int32)), (.ref b926)])
  refine go_stCF (pc' := 50) (i := 3) W945 af944 (by decide) (by decide) ge927 d0_49 rfl ?_
  intro T946 h946 W946 R946 A946
  have z948 := Nat.le_trans z943 (Keep.of_wr R946).1
  obtain ⟨fc949, hc949, af949⟩ := own_chars hc944 A946
  refine go_aload (pc' := 52) W946 d0_50 rfl rfl rfl ?_
  refine go_iconst (pc' := 53) (z := 4) W946 d0_52 rfl rfl ?_
  refine go_lloadN (pc' := 54) W946 d0_53 rfl rfl ?_
  refine go_iconst (pc' := 55) (z := 4) W946 d0_54 rfl rfl ?_
  refine go_lloadN (pc' := 56) W946 d0_55 rfl rfl ?_
  refine go_iconst (pc' := 57) (z := 4) W946 d0_56 rfl rfl ?_
  refine go_callS (kc := K1) (argsL := [(.long x0), (.int (4 : Int32)), (.long x1), (.int (4 : Int32))]) (rest := [(.int (4 : Int32)), (.ref b926)]) (pc' := 60) W946 (w1 hw) (w2 hw) (w3 hw) (w4 hw) (rm1 E.l Z a0 hw x0 (4 : Int32) x1 (4 : Int32) h946 n0 z948) (by decide) pd3 rfl rfl rfl (nb rfl) (nb rfl) (nb rfl) (nb rfl) d0_57 rfl ?_
  rintro _ T950 h950 ⟨r950, rfl, q950⟩ W950
  replace W950 := W950.sub q950
  show Go E _ (Fm E T950 60 #[.val (.long x0), .second, .val (.long x1), .second, .val (.long x2), .second, .val (.int x3), .val (.int x4), .val (.ref b926), .unset, .unset, .unset, .unset, .unset, .unset] [(.int r950), (.int (4 : Int32)), (.ref b926)])
  refine go_stCF (pc' := 61) (i := 4) W950 af949 (by decide) (by decide) ge927 d0_60 rfl ?_
  intro T951 h951 W951 R951 A951
  have z953 := Nat.le_trans z948 (Keep.of_wr R951).1
  obtain ⟨fc954, hc954, af954⟩ := own_chars hc949 A951
  refine go_aload (pc' := 63) W951 d0_61 rfl rfl rfl ?_
  refine go_iconst (pc' := 64) (z := 5) W951 d0_63 rfl rfl ?_
  refine go_lloadN (pc' := 65) W951 d0_64 rfl rfl ?_
  refine go_iconst (pc' := 66) (z := 5) W951 d0_65 rfl rfl ?_
  refine go_lloadN (pc' := 67) W951 d0_66 rfl rfl ?_
  refine go_iconst (pc' := 68) (z := 5) W951 d0_67 rfl rfl ?_
  refine go_callS (kc := K1) (argsL := [(.long x0), (.int (5 : Int32)), (.long x1), (.int (5 : Int32))]) (rest := [(.int (5 : Int32)), (.ref b926)]) (pc' := 71) W951 (w1 hw) (w2 hw) (w3 hw) (w4 hw) (rm1 E.l Z a0 hw x0 (5 : Int32) x1 (5 : Int32) h951 n0 z953) (by decide) pd3 rfl rfl rfl (nb rfl) (nb rfl) (nb rfl) (nb rfl) d0_68 rfl ?_
  rintro _ T955 h955 ⟨r955, rfl, q955⟩ W955
  replace W955 := W955.sub q955
  show Go E _ (Fm E T955 71 #[.val (.long x0), .second, .val (.long x1), .second, .val (.long x2), .second, .val (.int x3), .val (.int x4), .val (.ref b926), .unset, .unset, .unset, .unset, .unset, .unset] [(.int r955), (.int (5 : Int32)), (.ref b926)])
  refine go_stCF (pc' := 72) (i := 5) W955 af954 (by decide) (by decide) ge927 d0_71 rfl ?_
  intro T956 h956 W956 R956 A956
  have z958 := Nat.le_trans z953 (Keep.of_wr R956).1
  obtain ⟨fc959, hc959, af959⟩ := own_chars hc954 A956
  refine go_aload (pc' := 74) W956 d0_72 rfl rfl rfl ?_
  refine go_bipush (pc' := 76) (z := 6) W956 d0_74 (by decide) rfl ?_
  refine go_lloadN (pc' := 77) W956 d0_76 rfl rfl ?_
  refine go_bipush (pc' := 79) (z := 6) W956 d0_77 (by decide) rfl ?_
  refine go_lloadN (pc' := 80) W956 d0_79 rfl rfl ?_
  refine go_bipush (pc' := 82) (z := 6) W956 d0_80 (by decide) rfl ?_
  refine go_callS (kc := K1) (argsL := [(.long x0), (.int (6 : Int32)), (.long x1), (.int (6 : Int32))]) (rest := [(.int (6 : Int32)), (.ref b926)]) (pc' := 85) W956 (w1 hw) (w2 hw) (w3 hw) (w4 hw) (rm1 E.l Z a0 hw x0 (6 : Int32) x1 (6 : Int32) h956 n0 z958) (by decide) pd3 rfl rfl rfl (nb rfl) (nb rfl) (nb rfl) (nb rfl) d0_82 rfl ?_
  rintro _ T960 h960 ⟨r960, rfl, q960⟩ W960
  replace W960 := W960.sub q960
  show Go E _ (Fm E T960 85 #[.val (.long x0), .second, .val (.long x1), .second, .val (.long x2), .second, .val (.int x3), .val (.int x4), .val (.ref b926), .unset, .unset, .unset, .unset, .unset, .unset] [(.int r960), (.int (6 : Int32)), (.ref b926)])
  refine go_stCF (pc' := 86) (i := 6) W960 af959 (by decide) (by decide) ge927 d0_85 rfl ?_
  intro T961 h961 W961 R961 A961
  have z963 := Nat.le_trans z958 (Keep.of_wr R961).1
  obtain ⟨fc964, hc964, af964⟩ := own_chars hc959 A961
  refine go_aload (pc' := 88) W961 d0_86 rfl rfl rfl ?_
  refine go_bipush (pc' := 90) (z := 7) W961 d0_88 (by decide) rfl ?_
  refine go_lloadN (pc' := 91) W961 d0_90 rfl rfl ?_
  refine go_bipush (pc' := 93) (z := 7) W961 d0_91 (by decide) rfl ?_
  refine go_lloadN (pc' := 94) W961 d0_93 rfl rfl ?_
  refine go_bipush (pc' := 96) (z := 7) W961 d0_94 (by decide) rfl ?_
  refine go_callS (kc := K1) (argsL := [(.long x0), (.int (7 : Int32)), (.long x1), (.int (7 : Int32))]) (rest := [(.int (7 : Int32)), (.ref b926)]) (pc' := 99) W961 (w1 hw) (w2 hw) (w3 hw) (w4 hw) (rm1 E.l Z a0 hw x0 (7 : Int32) x1 (7 : Int32) h961 n0 z963) (by decide) pd3 rfl rfl rfl (nb rfl) (nb rfl) (nb rfl) (nb rfl) d0_96 rfl ?_
  rintro _ T965 h965 ⟨r965, rfl, q965⟩ W965
  replace W965 := W965.sub q965
  show Go E _ (Fm E T965 99 #[.val (.long x0), .second, .val (.long x1), .second, .val (.long x2), .second, .val (.int x3), .val (.int x4), .val (.ref b926), .unset, .unset, .unset, .unset, .unset, .unset] [(.int r965), (.int (7 : Int32)), (.ref b926)])
  refine go_stCF (pc' := 100) (i := 7) W965 af964 (by decide) (by decide) ge927 d0_99 rfl ?_
  intro T966 h966 W966 R966 A966
  have z968 := Nat.le_trans z963 (Keep.of_wr R966).1
  obtain ⟨fc969, hc969, af969⟩ := own_chars hc964 A966
  refine go_aload (pc' := 102) W966 d0_100 rfl rfl rfl ?_
  refine go_bipush (pc' := 104) (z := 8) W966 d0_102 (by decide) rfl ?_
  refine go_lloadN (pc' := 105) W966 d0_104 rfl rfl ?_
  refine go_bipush (pc' := 107) (z := 8) W966 d0_105 (by decide) rfl ?_
  refine go_lloadN (pc' := 108) W966 d0_107 rfl rfl ?_
  refine go_bipush (pc' := 110) (z := 8) W966 d0_108 (by decide) rfl ?_
  refine go_callS (kc := K1) (argsL := [(.long x0), (.int (8 : Int32)), (.long x1), (.int (8 : Int32))]) (rest := [(.int (8 : Int32)), (.ref b926)]) (pc' := 113) W966 (w1 hw) (w2 hw) (w3 hw) (w4 hw) (rm1 E.l Z a0 hw x0 (8 : Int32) x1 (8 : Int32) h966 n0 z968) (by decide) pd3 rfl rfl rfl (nb rfl) (nb rfl) (nb rfl) (nb rfl) d0_110 rfl ?_
  rintro _ T970 h970 ⟨r970, rfl, q970⟩ W970
  replace W970 := W970.sub q970
  show Go E _ (Fm E T970 113 #[.val (.long x0), .second, .val (.long x1), .second, .val (.long x2), .second, .val (.int x3), .val (.int x4), .val (.ref b926), .unset, .unset, .unset, .unset, .unset, .unset] [(.int r970), (.int (8 : Int32)), (.ref b926)])
  refine go_stCF (pc' := 114) (i := 8) W970 af969 (by decide) (by decide) ge927 d0_113 rfl ?_
  intro T971 h971 W971 R971 A971
  have z973 := Nat.le_trans z968 (Keep.of_wr R971).1
  obtain ⟨fc974, hc974, af974⟩ := own_chars hc969 A971
  refine go_aload (pc' := 116) W971 d0_114 rfl rfl rfl ?_
  refine go_bipush (pc' := 118) (z := 9) W971 d0_116 (by decide) rfl ?_
  refine go_lloadN (pc' := 119) W971 d0_118 rfl rfl ?_
  refine go_bipush (pc' := 121) (z := 9) W971 d0_119 (by decide) rfl ?_
  refine go_lloadN (pc' := 122) W971 d0_121 rfl rfl ?_
  refine go_bipush (pc' := 124) (z := 9) W971 d0_122 (by decide) rfl ?_
  refine go_callS (kc := K1) (argsL := [(.long x0), (.int (9 : Int32)), (.long x1), (.int (9 : Int32))]) (rest := [(.int (9 : Int32)), (.ref b926)]) (pc' := 127) W971 (w1 hw) (w2 hw) (w3 hw) (w4 hw) (rm1 E.l Z a0 hw x0 (9 : Int32) x1 (9 : Int32) h971 n0 z973) (by decide) pd3 rfl rfl rfl (nb rfl) (nb rfl) (nb rfl) (nb rfl) d0_124 rfl ?_
  rintro _ T975 h975 ⟨r975, rfl, q975⟩ W975
  replace W975 := W975.sub q975
  show Go E _ (Fm E T975 127 #[.val (.long x0), .second, .val (.long x1), .second, .val (.long x2), .second, .val (.int x3), .val (.int x4), .val (.ref b926), .unset, .unset, .unset, .unset, .unset, .unset] [(.int r975), (.int (9 : Int32)), (.ref b926)])
  refine go_stCF (pc' := 128) (i := 9) W975 af974 (by decide) (by decide) ge927 d0_127 rfl ?_
  intro T976 h976 W976 R976 A976
  have z978 := Nat.le_trans z973 (Keep.of_wr R976).1
  obtain ⟨fc979, hc979, af979⟩ := own_chars hc974 A976
  refine go_aload (pc' := 130) W976 d0_128 rfl rfl rfl ?_
  refine go_bipush (pc' := 132) (z := 10) W976 d0_130 (by decide) rfl ?_
  refine go_lloadN (pc' := 133) W976 d0_132 rfl rfl ?_
  refine go_bipush (pc' := 135) (z := 10) W976 d0_133 (by decide) rfl ?_
  refine go_lload (pc' := 137) W976 d0_135 rfl rfl ?_
  refine go_iconst (pc' := 138) (z := 0) W976 d0_137 rfl rfl ?_
  refine go_callS (kc := K1) (argsL := [(.long x0), (.int (10 : Int32)), (.long x2), (.int (0 : Int32))]) (rest := [(.int (10 : Int32)), (.ref b926)]) (pc' := 141) W976 (w1 hw) (w2 hw) (w3 hw) (w4 hw) (rm1 E.l Z a0 hw x0 (10 : Int32) x2 (0 : Int32) h976 n0 z978) (by decide) pd3 rfl rfl rfl (nb rfl) (nb rfl) (nb rfl) (nb rfl) d0_138 rfl ?_
  rintro _ T980 h980 ⟨r980, rfl, q980⟩ W980
  replace W980 := W980.sub q980
  show Go E _ (Fm E T980 141 #[.val (.long x0), .second, .val (.long x1), .second, .val (.long x2), .second, .val (.int x3), .val (.int x4), .val (.ref b926), .unset, .unset, .unset, .unset, .unset, .unset] [(.int r980), (.int (10 : Int32)), (.ref b926)])
  refine go_stCF (pc' := 142) (i := 10) W980 af979 (by decide) (by decide) ge927 d0_141 rfl ?_
  intro T981 h981 W981 R981 A981
  have z983 := Nat.le_trans z978 (Keep.of_wr R981).1
  obtain ⟨fc984, hc984, af984⟩ := own_chars hc979 A981
  refine go_aload (pc' := 144) W981 d0_142 rfl rfl rfl ?_
  refine go_bipush (pc' := 146) (z := 11) W981 d0_144 (by decide) rfl ?_
  refine go_lloadN (pc' := 147) W981 d0_146 rfl rfl ?_
  refine go_bipush (pc' := 149) (z := 11) W981 d0_147 (by decide) rfl ?_
  refine go_lload (pc' := 151) W981 d0_149 rfl rfl ?_
  refine go_iconst (pc' := 152) (z := 1) W981 d0_151 rfl rfl ?_
  refine go_callS (kc := K1) (argsL := [(.long x0), (.int (11 : Int32)), (.long x2), (.int (1 : Int32))]) (rest := [(.int (11 : Int32)), (.ref b926)]) (pc' := 155) W981 (w1 hw) (w2 hw) (w3 hw) (w4 hw) (rm1 E.l Z a0 hw x0 (11 : Int32) x2 (1 : Int32) h981 n0 z983) (by decide) pd3 rfl rfl rfl (nb rfl) (nb rfl) (nb rfl) (nb rfl) d0_152 rfl ?_
  rintro _ T985 h985 ⟨r985, rfl, q985⟩ W985
  replace W985 := W985.sub q985
  show Go E _ (Fm E T985 155 #[.val (.long x0), .second, .val (.long x1), .second, .val (.long x2), .second, .val (.int x3), .val (.int x4), .val (.ref b926), .unset, .unset, .unset, .unset, .unset, .unset] [(.int r985), (.int (11 : Int32)), (.ref b926)])
  refine go_stCF (pc' := 156) (i := 11) W985 af984 (by decide) (by decide) ge927 d0_155 rfl ?_
  intro T986 h986 W986 R986 A986
  have z988 := Nat.le_trans z983 (Keep.of_wr R986).1
  obtain ⟨fc989, hc989, af989⟩ := own_chars hc984 A986
  refine go_aload (pc' := 158) W986 d0_156 rfl rfl rfl ?_
  refine go_bipush (pc' := 160) (z := 12) W986 d0_158 (by decide) rfl ?_
  refine go_lloadN (pc' := 161) W986 d0_160 rfl rfl ?_
  refine go_bipush (pc' := 163) (z := 12) W986 d0_161 (by decide) rfl ?_
  refine go_lload (pc' := 165) W986 d0_163 rfl rfl ?_
  refine go_iconst (pc' := 166) (z := 2) W986 d0_165 rfl rfl ?_
  refine go_callS (kc := K1) (argsL := [(.long x0), (.int (12 : Int32)), (.long x2), (.int (2 : Int32))]) (rest := [(.int (12 : Int32)), (.ref b926)]) (pc' := 169) W986 (w1 hw) (w2 hw) (w3 hw) (w4 hw) (rm1 E.l Z a0 hw x0 (12 : Int32) x2 (2 : Int32) h986 n0 z988) (by decide) pd3 rfl rfl rfl (nb rfl) (nb rfl) (nb rfl) (nb rfl) d0_166 rfl ?_
  rintro _ T990 h990 ⟨r990, rfl, q990⟩ W990
  replace W990 := W990.sub q990
  show Go E _ (Fm E T990 169 #[.val (.long x0), .second, .val (.long x1), .second, .val (.long x2), .second, .val (.int x3), .val (.int x4), .val (.ref b926), .unset, .unset, .unset, .unset, .unset, .unset] [(.int r990), (.int (12 : Int32)), (.ref b926)])
  refine go_stCF (pc' := 170) (i := 12) W990 af989 (by decide) (by decide) ge927 d0_169 rfl ?_
  intro T991 h991 W991 R991 A991
  have z993 := Nat.le_trans z988 (Keep.of_wr R991).1
  obtain ⟨fc994, hc994, af994⟩ := own_chars hc989 A991
  refine go_aload (pc' := 172) W991 d0_170 rfl rfl rfl ?_
  refine go_bipush (pc' := 174) (z := 13) W991 d0_172 (by decide) rfl ?_
  refine go_lloadN (pc' := 175) W991 d0_174 rfl rfl ?_
  refine go_bipush (pc' := 177) (z := 13) W991 d0_175 (by decide) rfl ?_
  refine go_lload (pc' := 179) W991 d0_177 rfl rfl ?_
  refine go_iconst (pc' := 180) (z := 3) W991 d0_179 rfl rfl ?_
  refine go_callS (kc := K1) (argsL := [(.long x0), (.int (13 : Int32)), (.long x2), (.int (3 : Int32))]) (rest := [(.int (13 : Int32)), (.ref b926)]) (pc' := 183) W991 (w1 hw) (w2 hw) (w3 hw) (w4 hw) (rm1 E.l Z a0 hw x0 (13 : Int32) x2 (3 : Int32) h991 n0 z993) (by decide) pd3 rfl rfl rfl (nb rfl) (nb rfl) (nb rfl) (nb rfl) d0_180 rfl ?_
  rintro _ T995 h995 ⟨r995, rfl, q995⟩ W995
  replace W995 := W995.sub q995
  show Go E _ (Fm E T995 183 #[.val (.long x0), .second, .val (.long x1), .second, .val (.long x2), .second, .val (.int x3), .val (.int x4), .val (.ref b926), .unset, .unset, .unset, .unset, .unset, .unset] [(.int r995), (.int (13 : Int32)), (.ref b926)])
  refine go_stCF (pc' := 184) (i := 13) W995 af994 (by decide) (by decide) ge927 d0_183 rfl ?_
  intro T996 h996 W996 R996 A996
  have z998 := Nat.le_trans z993 (Keep.of_wr R996).1
  obtain ⟨fc999, hc999, af999⟩ := own_chars hc994 A996
  refine go_aload (pc' := 186) W996 d0_184 rfl rfl rfl ?_
  refine go_bipush (pc' := 188) (z := 14) W996 d0_186 (by decide) rfl ?_
  refine go_lloadN (pc' := 189) W996 d0_188 rfl rfl ?_
  refine go_bipush (pc' := 191) (z := 14) W996 d0_189 (by decide) rfl ?_
  refine go_lload (pc' := 193) W996 d0_191 rfl rfl ?_
  refine go_iconst (pc' := 194) (z := 4) W996 d0_193 rfl rfl ?_
  refine go_callS (kc := K1) (argsL := [(.long x0), (.int (14 : Int32)), (.long x2), (.int (4 : Int32))]) (rest := [(.int (14 : Int32)), (.ref b926)]) (pc' := 197) W996 (w1 hw) (w2 hw) (w3 hw) (w4 hw) (rm1 E.l Z a0 hw x0 (14 : Int32) x2 (4 : Int32) h996 n0 z998) (by decide) pd3 rfl rfl rfl (nb rfl) (nb rfl) (nb rfl) (nb rfl) d0_194 rfl ?_
  rintro _ T1000 h1000 ⟨r1000, rfl, q1000⟩ W1000
  replace W1000 := W1000.sub q1000
  show Go E _ (Fm E T1000 197 #[.val (.long x0), .second, .val (.long x1), .second, .val (.long x2), .second, .val (.int x3), .val (.int x4), .val (.ref b926), .unset, .unset, .unset, .unset, .unset, .unset] [(.int r1000), (.int (14 : Int32)), (.ref b926)])
  refine go_stCF (pc' := 198) (i := 14) W1000 af999 (by decide) (by decide) ge927 d0_197 rfl ?_
  intro T1001 h1001 W1001 R1001 A1001
  have z1003 := Nat.le_trans z998 (Keep.of_wr R1001).1
  obtain ⟨fc1004, hc1004, af1004⟩ := own_chars hc999 A1001
  refine go_aload (pc' := 200) W1001 d0_198 rfl rfl rfl ?_
  refine go_bipush (pc' := 202) (z := 15) W1001 d0_200 (by decide) rfl ?_
  refine go_lloadN (pc' := 203) W1001 d0_202 rfl rfl ?_
  refine go_bipush (pc' := 205) (z := 15) W1001 d0_203 (by decide) rfl ?_
  refine go_lload (pc' := 207) W1001 d0_205 rfl rfl ?_
  refine go_iconst (pc' := 208) (z := 5) W1001 d0_207 rfl rfl ?_
  refine go_callS (kc := K1) (argsL := [(.long x0), (.int (15 : Int32)), (.long x2), (.int (5 : Int32))]) (rest := [(.int (15 : Int32)), (.ref b926)]) (pc' := 211) W1001 (w1 hw) (w2 hw) (w3 hw) (w4 hw) (rm1 E.l Z a0 hw x0 (15 : Int32) x2 (5 : Int32) h1001 n0 z1003) (by decide) pd3 rfl rfl rfl (nb rfl) (nb rfl) (nb rfl) (nb rfl) d0_208 rfl ?_
  rintro _ T1005 h1005 ⟨r1005, rfl, q1005⟩ W1005
  replace W1005 := W1005.sub q1005
  show Go E _ (Fm E T1005 211 #[.val (.long x0), .second, .val (.long x1), .second, .val (.long x2), .second, .val (.int x3), .val (.int x4), .val (.ref b926), .unset, .unset, .unset, .unset, .unset, .unset] [(.int r1005), (.int (15 : Int32)), (.ref b926)])
  refine go_stCF (pc' := 212) (i := 15) W1005 af1004 (by decide) (by decide) ge927 d0_211 rfl ?_
  intro T1006 h1006 W1006 R1006 A1006
  have z1008 := Nat.le_trans z1003 (Keep.of_wr R1006).1
  obtain ⟨fc1009, hc1009, af1009⟩ := own_chars hc1004 A1006
  refine go_aload (pc' := 214) W1006 d0_212 rfl rfl rfl ?_
  refine go_bipush (pc' := 216) (z := 16) W1006 d0_214 (by decide) rfl ?_
  refine go_lloadN (pc' := 217) W1006 d0_216 rfl rfl ?_
  refine go_bipush (pc' := 219) (z := 16) W1006 d0_217 (by decide) rfl ?_
  refine go_lload (pc' := 221) W1006 d0_219 rfl rfl ?_
  refine go_bipush (pc' := 223) (z := 6) W1006 d0_221 (by decide) rfl ?_
  refine go_callS (kc := K1) (argsL := [(.long x0), (.int (16 : Int32)), (.long x2), (.int (6 : Int32))]) (rest := [(.int (16 : Int32)), (.ref b926)]) (pc' := 226) W1006 (w1 hw) (w2 hw) (w3 hw) (w4 hw) (rm1 E.l Z a0 hw x0 (16 : Int32) x2 (6 : Int32) h1006 n0 z1008) (by decide) pd3 rfl rfl rfl (nb rfl) (nb rfl) (nb rfl) (nb rfl) d0_223 rfl ?_
  rintro _ T1010 h1010 ⟨r1010, rfl, q1010⟩ W1010
  replace W1010 := W1010.sub q1010
  show Go E _ (Fm E T1010 226 #[.val (.long x0), .second, .val (.long x1), .second, .val (.long x2), .second, .val (.int x3), .val (.int x4), .val (.ref b926), .unset, .unset, .unset, .unset, .unset, .unset] [(.int r1010), (.int (16 : Int32)), (.ref b926)])
  refine go_stCF (pc' := 227) (i := 16) W1010 af1009 (by decide) (by decide) ge927 d0_226 rfl ?_
  intro T1011 h1011 W1011 R1011 A1011
  have z1013 := Nat.le_trans z1008 (Keep.of_wr R1011).1
  obtain ⟨fc1014, hc1014, af1014⟩ := own_chars hc1009 A1011
  refine go_aload (pc' := 229) W1011 d0_227 rfl rfl rfl ?_
  refine go_bipush (pc' := 231) (z := 17) W1011 d0_229 (by decide) rfl ?_
  refine go_lloadN (pc' := 232) W1011 d0_231 rfl rfl ?_
  refine go_bipush (pc' := 234) (z := 17) W1011 d0_232 (by decide) rfl ?_
  refine go_lload (pc' := 236) W1011 d0_234 rfl rfl ?_
  refine go_bipush (pc' := 238) (z := 7) W1011 d0_236 (by decide) rfl ?_
  refine go_callS (kc := K1) (argsL := [(.long x0), (.int (17 : Int32)), (.long x2), (.int (7 : Int32))]) (rest := [(.int (17 : Int32)), (.ref b926)]) (pc' := 241) W1011 (w1 hw) (w2 hw) (w3 hw) (w4 hw) (rm1 E.l Z a0 hw x0 (17 : Int32) x2 (7 : Int32) h1011 n0 z1013) (by decide) pd3 rfl rfl rfl (nb rfl) (nb rfl) (nb rfl) (nb rfl) d0_238 rfl ?_
  rintro _ T1015 h1015 ⟨r1015, rfl, q1015⟩ W1015
  replace W1015 := W1015.sub q1015
  show Go E _ (Fm E T1015 241 #[.val (.long x0), .second, .val (.long x1), .second, .val (.long x2), .second, .val (.int x3), .val (.int x4), .val (.ref b926), .unset, .unset, .unset, .unset, .unset, .unset] [(.int r1015), (.int (17 : Int32)), (.ref b926)])
  refine go_stCF (pc' := 242) (i := 17) W1015 af1014 (by decide) (by decide) ge927 d0_241 rfl ?_
  intro T1016 h1016 W1016 R1016 A1016
  have z1018 := Nat.le_trans z1013 (Keep.of_wr R1016).1
  obtain ⟨fc1019, hc1019, af1019⟩ := own_chars hc1014 A1016
  refine go_aload (pc' := 244) W1016 d0_242 rfl rfl rfl ?_
  refine go_bipush (pc' := 246) (z := 18) W1016 d0_244 (by decide) rfl ?_
  refine go_lloadN (pc' := 247) W1016 d0_246 rfl rfl ?_
  refine go_bipush (pc' := 249) (z := 18) W1016 d0_247 (by decide) rfl ?_
  refine go_lload (pc' := 251) W1016 d0_249 rfl rfl ?_
  refine go_bipush (pc' := 253) (z := 8) W1016 d0_251 (by decide) rfl ?_
  refine go_callS (kc := K1) (argsL := [(.long x0), (.int (18 : Int32)), (.long x2), (.int (8 : Int32))]) (rest := [(.int (18 : Int32)), (.ref b926)]) (pc' := 256) W1016 (w1 hw) (w2 hw) (w3 hw) (w4 hw) (rm1 E.l Z a0 hw x0 (18 : Int32) x2 (8 : Int32) h1016 n0 z1018) (by decide) pd3 rfl rfl rfl (nb rfl) (nb rfl) (nb rfl) (nb rfl) d0_253 rfl ?_
  rintro _ T1020 h1020 ⟨r1020, rfl, q1020⟩ W1020
  replace W1020 := W1020.sub q1020
  show Go E _ (Fm E T1020 256 #[.val (.long x0), .second, .val (.long x1), .second, .val (.long x2), .second, .val (.int x3), .val (.int x4), .val (.ref b926), .unset, .unset, .unset, .unset, .unset, .unset] [(.int r1020), (.int (18 : Int32)), (.ref b926)])
  refine go_stCF (pc' := 257) (i := 18) W1020 af1019 (by decide) (by decide) ge927 d0_256 rfl ?_
  intro T1021 h1021 W1021 R1021 A1021
  have z1023 := Nat.le_trans z1018 (Keep.of_wr R1021).1
  obtain ⟨fc1024, hc1024, af1024⟩ := own_chars hc1019 A1021
  refine go_aload (pc' := 259) W1021 d0_257 rfl rfl rfl ?_
  refine go_bipush (pc' := 261) (z := 19) W1021 d0_259 (by decide) rfl ?_
  refine go_lloadN (pc' := 262) W1021 d0_261 rfl rfl ?_
  refine go_bipush (pc' := 264) (z := 19) W1021 d0_262 (by decide) rfl ?_
  refine go_lload (pc' := 266) W1021 d0_264 rfl rfl ?_
  refine go_bipush (pc' := 268) (z := 9) W1021 d0_266 (by decide) rfl ?_
  refine go_callS (kc := K1) (argsL := [(.long x0), (.int (19 : Int32)), (.long x2), (.int (9 : Int32))]) (rest := [(.int (19 : Int32)), (.ref b926)]) (pc' := 271) W1021 (w1 hw) (w2 hw) (w3 hw) (w4 hw) (rm1 E.l Z a0 hw x0 (19 : Int32) x2 (9 : Int32) h1021 n0 z1023) (by decide) pd3 rfl rfl rfl (nb rfl) (nb rfl) (nb rfl) (nb rfl) d0_268 rfl ?_
  rintro _ T1025 h1025 ⟨r1025, rfl, q1025⟩ W1025
  replace W1025 := W1025.sub q1025
  show Go E _ (Fm E T1025 271 #[.val (.long x0), .second, .val (.long x1), .second, .val (.long x2), .second, .val (.int x3), .val (.int x4), .val (.ref b926), .unset, .unset, .unset, .unset, .unset, .unset] [(.int r1025), (.int (19 : Int32)), (.ref b926)])
  refine go_stCF (pc' := 272) (i := 19) W1025 af1024 (by decide) (by decide) ge927 d0_271 rfl ?_
  intro T1026 h1026 W1026 R1026 A1026
  have z1028 := Nat.le_trans z1023 (Keep.of_wr R1026).1
  obtain ⟨fc1029, hc1029, af1029⟩ := own_chars hc1024 A1026
  refine go_iload (pc' := 274) W1026 d0_272 rfl rfl ?_
  refine go_ldcInt (pc' := 276) W1026 (w6 hw) d0_274 rfl ?_
  refine go_iand (pc' := 277) W1026 d0_276 rfl ?_
  refine go_bipush (pc' := 279) (z := 21) W1026 d0_277 (by decide) rfl ?_
  refine go_irem (pc' := 280) W1026 d0_279 (by decide) rfl ?_
  refine go_istore (pc' := 282) (l' := #[.val (.long x0), .second, .val (.long x1), .second, .val (.long x2), .second, .val (.int x3), .val (.int x4), .val (.ref b926), .val (.int ((x3 &&& (2147483647 : Int32)) % (21 : Int32))), .unset, .unset, .unset, .unset, .unset]) W1026 d0_280 rfl rfl ?_
  obtain ⟨nN, hn, hn20⟩ := own_n21 x3
  generalize (x3 &&& (2147483647 : Int32)) % (21 : Int32) = n at hn ⊢
  show Go E _ (Fm E T1026 282 #[.val (.long x0), .second, .val (.long x1), .second, .val (.long x2), .second, .val (.int x3), .val (.int x4), .val (.ref b926), .val (.int n), .unset, .unset, .unset, .unset, .unset] [])
  refine go_iload (pc' := 284) W1026 d0_282 rfl rfl ?_
  refine go_iconst (pc' := 285) (z := 3) W1026 d0_284 rfl rfl ?_
  refine go_iand (pc' := 286) W1026 d0_285 rfl ?_
  refine go_istore (pc' := 288) (l' := #[.val (.long x0), .second, .val (.long x1), .second, .val (.long x2), .second, .val (.int x3), .val (.int x4), .val (.ref b926), .val (.int n), .val (.int (x4 &&& (3 : Int32))), .unset, .unset, .unset, .unset]) W1026 d0_286 rfl rfl ?_
  rcases own_four x4 with hk | hk | hk | hk
  · rw [hk]
    show Go E _ (Fm E T1026 288 #[.val (.long x0), .second, .val (.long x1), .second, .val (.long x2), .second, .val (.int x3), .val (.int x4), .val (.ref b926), .val (.int n), .val (.int (0 : Int32)), .unset, .unset, .unset, .unset] [])
    refine go_iload (pc' := 290) W1026 d0_288 rfl rfl ?_
    refine go_iload (pc' := 292) W1026 d0_290 rfl rfl ?_
    refine go_isub (pc' := 293) W1026 d0_292 rfl ?_
    refine go_iconst (pc' := 294) (z := 0) W1026 d0_293 rfl rfl ?_
    refine go_callS (kc := K2) (argsL := [(.int (n - (0 : Int32))), (.int (0 : Int32))]) (rest := []) (pc' := 297) W1026 (w7 hw) (w8 hw) (w9 hw) (w10 hw) (rm2 E.l Z a0 hw (n - (0 : Int32)) (0 : Int32) h1026 n0 z1028) (by decide) pd0 rfl rfl rfl (nb rfl) (nb rfl) (nb rfl) (nb rfl) d0_294 rfl ?_
    rintro _ T1030 h1030 ⟨rfl, q1030⟩ W1030
    replace W1030 := W1030.sub q1030
    show Go E _ (Fm E T1030 297 #[.val (.long x0), .second, .val (.long x1), .second, .val (.long x2), .second, .val (.int x3), .val (.int x4), .val (.ref b926), .val (.int n), .val (.int (0 : Int32)), .unset, .unset, .unset, .unset] [(.int (own_max (n - (0 : Int32)) (0 : Int32)))])
    refine go_istore (pc' := 299) (l' := #[.val (.long x0), .second, .val (.long x1), .second, .val (.long x2), .second, .val (.int x3), .val (.int x4), .val (.ref b926), .val (.int n), .val (.int (0 : Int32)), .val (.int (own_max (n - (0 : Int32)) (0 : Int32))), .unset, .unset, .unset]) W1030 d0_297 rfl rfl ?_
    have hm := own_mm n (0 : Int32) nN 0 hn hn20 rfl (by decide)
    generalize (own_max (n - (0 : Int32)) (0 : Int32)) = m at hm ⊢
    show Go E _ (Fm E T1030 299 #[.val (.long x0), .second, .val (.long x1), .second, .val (.long x2), .second, .val (.int x3), .val (.int x4), .val (.ref b926), .val (.int n), .val (.int (0 : Int32)), .val (.int m), .unset, .unset, .unset] [])
    have lt1031 := Nat.lt_of_lt_of_le af1029.lt (Nat.le_refl _)
    refine go_new (pc' := 302) W1030 (w11 hw) (w12 hw) (w13 hw) d0_299 (nb rfl) (nb rfl) rfl ?_
    intro T1032 h1032 b1032 g1032 W1032 E1032 A1032 D1032 M1032
    have ne1033 : b926 ≠ b1032 := by rw [g1032]; exact Nat.ne_of_lt af1029.lt
    have ge1034 : n0 ≤ b1032 := by rw [g1032]; exact z1028
    have g1032x := Nat.le_of_eq g1032
    have g1032y := Nat.le_of_eq (Eq.symm g1032)
    have E1032x := E1032.1
    have f1035 := af1029.ext E1032
    have z1036 := Nat.le_trans z1028 E1032.1
    have f1037 : Fld Z h1032 b1032 "com/example/hornstone/hornstone/read/Position" "lines" "[I" .null := D1032 (Or.inr (w22 hw)) (ty := (.array .int)) (by decide)
    have f1038 : Fld Z h1032 b1032 "com/example/hornstone/hornstone/read/Position" "columns" "[I" .null := D1032 (Or.inr (w24 hw)) (ty := (.array .int)) (by decide)
    have f1039 : Fld Z h1032 b1032 "com/example/hornstone/hornstone/read/Position" "breaks" "[B" .null := D1032 (Or.inr (w27 hw)) (ty := (.array .byte)) (by decide)
    have f1040 : Fld Z h1032 b1032 "com/example/hornstone/hornstone/read/Position" "line" "I" (.int (0 : Int32)) := D1032 (Or.inl (w29 hw)) (ty := .int) (by decide)
    have f1041 : Fld Z h1032 b1032 "com/example/hornstone/hornstone/read/Position" "lastBreak" "B" (.int (0 : Int32)) := D1032 (Or.inl (w31 hw)) (ty := .byte) (by decide)
    have f1042 : Fld Z h1032 b1032 "com/example/hornstone/hornstone/read/Position" "newest" "I" (.int (0 : Int32)) := D1032 (Or.inl (w44 hw)) (ty := .int) (by decide)
    have f1043 : Fld Z h1032 b1032 "com/example/hornstone/hornstone/read/Position" "column" "I" (.int (0 : Int32)) := D1032 (Or.inl (w46 hw)) (ty := .int) (by decide)
    have f1044 : Fld Z h1032 b1032 "com/example/hornstone/hornstone/read/Position" "kept" "I" (.int (0 : Int32)) := D1032 (Or.inl (w48 hw)) (ty := .int) (by decide)
    refine go_dup (pc' := 303) W1032 d0_302 rfl rfl ?_
    refine go_callN (a := b1032) (kc := K3) (argsL := []) (rest := [(.ref b1032)]) (pc' := 306) W1032 (w14 hw) (w15 hw) (w13 hw) (w16 hw) (rm3 E.l Z a0 hw b1032 h1032 n0 z1036 A1032 f1037 f1038 f1039 f1042 f1044 f1040 f1043 f1041 ge1034) rfl rfl (by decide) pd4 rfl rfl rfl (nb rfl) (nb rfl) (nb rfl) (nb rfl) d0_303 rfl ?_
    rintro _ T1045 h1045 ⟨la1045, ca1045, ba1045, rfl, NE1045, s11045, s21045, s31045, K1045, P1045⟩ W1045
    have f1046 := A1032.keep K1045
    have z1047 := Nat.le_trans z1036 K1045.1
    have f1048 := f1035.keep K1045 (by simp only [List.mem_cons, List.not_mem_nil, or_false, not_or]; (repeat' apply And.intro) <;> (intro q; have q1 := Nat.le_of_eq q; have q2 := Nat.le_of_eq (Eq.symm q); omega))
    show Go E _ (Fm E T1045 306 #[.val (.long x0), .second, .val (.long x1), .second, .val (.long x2), .second, .val (.int x3), .val (.int x4), .val (.ref b926), .val (.int n), .val (.int (0 : Int32)), .val (.int m), .unset, .unset, .unset] [(.ref b1032)])
    refine go_astore (pc' := 308) (l' := #[.val (.long x0), .second, .val (.long x1), .second, .val (.long x2), .second, .val (.int x3), .val (.int x4), .val (.ref b926), .val (.int n), .val (.int (0 : Int32)), .val (.int m), .val (.ref b1032), .unset, .unset]) W1045 d0_306 rfl rfl rfl ?_
    refine go_aload (pc' := 310) W1045 d0_308 rfl rfl rfl ?_
    refine go_aload (pc' := 312) W1045 d0_310 rfl rfl rfl ?_
    refine go_iconst (pc' := 313) (z := 0) W1045 d0_312 rfl rfl ?_
    refine go_iload (pc' := 315) W1045 d0_313 rfl rfl ?_
    refine go_callV (a := b1032) (kc := K5) (argsL := [(.ref b926), (.int (0 : Int32)), (.int n)]) (rest := []) (pc' := 318) W1045 (w32 hw) (w33 hw) (nf_sel W1045 (w35 hw)) (w35 hw) (w34 hw) (w13 hw) (w36 hw) f1046 (rm5 E.l Z a0 hw b1032 b926 n la1045 ca1045 ba1045 fc1029 nN h1045 n0 z1047 P1045 NE1045 f1048 hc1029 (by simp only [List.mem_cons, List.not_mem_nil, or_false, not_or]; (repeat' apply And.intro) <;> (intro q; have q1 := Nat.le_of_eq q; have q2 := Nat.le_of_eq (Eq.symm q); omega)) hn hn20) (by decide) pd5 rfl rfl rfl (nb rfl) (nb rfl) (nb rfl) (nb rfl) d0_315 rfl ?_
    rintro _ T1049 h1049 ⟨rfl, K1049, nw1049, kp1049, t1049, fl1049, fc1049, fb1049, P1049, AI1049⟩ W1049
    have f1050 := f1046.keep K1049
    have z1051 := Nat.le_trans z1047 K1049.1
    have f1052 := f1048.keep K1049 (by simp only [List.mem_cons, List.not_mem_nil, or_false, not_or]; (repeat' apply And.intro) <;> (intro q; have q1 := Nat.le_of_eq q; have q2 := Nat.le_of_eq (Eq.symm q); omega))
    show Go E _ (Fm E T1049 318 #[.val (.long x0), .second, .val (.long x1), .second, .val (.long x2), .second, .val (.int x3), .val (.int x4), .val (.ref b926), .val (.int n), .val (.int (0 : Int32)), .val (.int m), .val (.ref b1032), .unset, .unset] [])
    refine go_iload (pc' := 320) W1049 d0_318 rfl rfl ?_
    refine go_iconst (pc' := 321) (z := 1) W1049 d0_320 rfl rfl ?_
    refine go_icmp_lt (pt := 329) (pf := 324) W1049 d0_321 (by decide) rfl rfl (fun c321_1053 => ?_) (fun c321_1053 => ?_)
    · -- pc 321 taken
      refine go_iload (pc' := 331) W1049 d0_329 rfl rfl ?_
      refine go_iconst (pc' := 332) (z := 2) W1049 d0_331 rfl rfl ?_
      refine go_icmp_lt (pt := 340) (pf := 335) W1049 d0_332 (by decide) rfl rfl (fun c332_1054 => ?_) (fun c332_1054 => ?_)
      · -- pc 332 taken
        refine go_iload (pc' := 342) W1049 d0_340 rfl rfl ?_
        refine go_iconst (pc' := 343) (z := 3) W1049 d0_342 rfl rfl ?_
        refine go_icmp_lt (pt := 351) (pf := 346) W1049 d0_343 (by decide) rfl rfl (fun c343_1055 => ?_) (fun c343_1055 => ?_)
        · -- pc 343 taken
          have lt1057 := Nat.lt_of_lt_of_le f1052.lt (Nat.le_refl _)
          obtain ⟨lt1058, lu1058, lv1058, lw1058⟩ := own_Pos_lt P1049
          have lt1058n := Nat.lt_of_lt_of_le lt1058 (Nat.le_refl _)
          have lu1058n := Nat.lt_of_lt_of_le lu1058 (Nat.le_refl _)
          have lv1058n := Nat.lt_of_lt_of_le lv1058 (Nat.le_refl _)
          have lw1058n := Nat.lt_of_lt_of_le lw1058 (Nat.le_refl _)
          refine go_new (pc' := 354) W1049 (w11 hw) (w12 hw) (w13 hw) d0_351 (nb rfl) (nb rfl) rfl ?_
          intro T1059 h1059 b1059 g1059 W1059 E1059 A1059 D1059 M1059
          have ne1060 : b1032 ≠ b1059 := by rw [g1059]; exact Nat.ne_of_lt f1050.lt
          have ne1061 : b926 ≠ b1059 := by rw [g1059]; exact Nat.ne_of_lt f1052.lt
          have ge1062 : n0 ≤ b1059 := by rw [g1059]; exact z1051
          have g1059x := Nat.le_of_eq g1059
          have g1059y := Nat.le_of_eq (Eq.symm g1059)
          have E1059x := E1059.1
          have f1063 := f1050.ext E1059
          have f1064 := f1052.ext E1059
          have z1065 := Nat.le_trans z1051 E1059.1
          have P1066 := own_Pos_ext P1049 E1059
          have f1067 : Fld Z h1059 b1059 "com/example/hornstone/hornstone/read/Position" "lines" "[I" .null := D1059 (Or.inr (w22 hw)) (ty := (.array .int)) (by decide)
          have f1068 : Fld Z h1059 b1059 "com/example/hornstone/hornstone/read/Position" "columns" "[I" .null := D1059 (Or.inr (w24 hw)) (ty := (.array .int)) (by decide)
          have f1069 : Fld Z h1059 b1059 "com/example/hornstone/hornstone/read/Position" "breaks" "[B" .null := D1059 (Or.inr (w27 hw)) (ty := (.array .byte)) (by decide)
          have f1070 : Fld Z h1059 b1059 "com/example/hornstone/hornstone/read/Position" "line" "I" (.int (0 : Int32)) := D1059 (Or.inl (w29 hw)) (ty := .int) (by decide)
          have f1071 : Fld Z h1059 b1059 "com/example/hornstone/hornstone/read/Position" "lastBreak" "B" (.int (0 : Int32)) := D1059 (Or.inl (w31 hw)) (ty := .byte) (by decide)
          have f1072 : Fld Z h1059 b1059 "com/example/hornstone/hornstone/read/Position" "newest" "I" (.int (0 : Int32)) := D1059 (Or.inl (w44 hw)) (ty := .int) (by decide)
          have f1073 : Fld Z h1059 b1059 "com/example/hornstone/hornstone/read/Position" "column" "I" (.int (0 : Int32)) := D1059 (Or.inl (w46 hw)) (ty := .int) (by decide)
          have f1074 : Fld Z h1059 b1059 "com/example/hornstone/hornstone/read/Position" "kept" "I" (.int (0 : Int32)) := D1059 (Or.inl (w48 hw)) (ty := .int) (by decide)
          refine go_dup (pc' := 355) W1059 d0_354 rfl rfl ?_
          refine go_callN (a := b1059) (kc := K3) (argsL := []) (rest := [(.ref b1059)]) (pc' := 358) W1059 (w14 hw) (w15 hw) (w13 hw) (w16 hw) (rm3 E.l Z a0 hw b1059 h1059 n0 z1065 A1059 f1067 f1068 f1069 f1072 f1074 f1070 f1073 f1071 ge1062) rfl rfl (by decide) pd4 rfl rfl rfl (nb rfl) (nb rfl) (nb rfl) (nb rfl) d0_355 rfl ?_
          rintro _ T1075 h1075 ⟨la1075, ca1075, ba1075, rfl, NE1075, s11075, s21075, s31075, K1075, P1075⟩ W1075
          have f1076 := f1063.keep K1075
          have f1077 := A1059.keep K1075
          have z1078 := Nat.le_trans z1065 K1075.1
          have f1079 := f1064.keep K1075 (by simp only [List.mem_cons, List.not_mem_nil, or_false, not_or]; (repeat' apply And.intro) <;> (intro q; have q1 := Nat.le_of_eq q; have q2 := Nat.le_of_eq (Eq.symm q); omega))
          have P1080 := own_Pos_keep P1066 K1075 (by simp only [List.mem_cons, List.not_mem_nil, or_false, not_or]; (repeat' apply And.intro) <;> (intro q; have q1 := Nat.le_of_eq q; have q2 := Nat.le_of_eq (Eq.symm q); omega))
          show Go E _ (Fm E T1075 358 #[.val (.long x0), .second, .val (.long x1), .second, .val (.long x2), .second, .val (.int x3), .val (.int x4), .val (.ref b926), .val (.int n), .val (.int (0 : Int32)), .val (.int m), .val (.ref b1032), .unset, .unset] [(.ref b1059)])
          refine go_astore (pc' := 360) (l' := #[.val (.long x0), .second, .val (.long x1), .second, .val (.long x2), .second, .val (.int x3), .val (.int x4), .val (.ref b926), .val (.int n), .val (.int (0 : Int32)), .val (.int m), .val (.ref b1032), .val (.ref b1059), .unset]) W1075 d0_358 rfl rfl rfl ?_
          refine go_aload (pc' := 362) W1075 d0_360 rfl rfl rfl ?_
          refine go_aload (pc' := 364) W1075 d0_362 rfl rfl rfl ?_
          refine go_iconst (pc' := 365) (z := 0) W1075 d0_364 rfl rfl ?_
          refine go_iload (pc' := 367) W1075 d0_365 rfl rfl ?_
          refine go_callV (a := b1059) (kc := K5) (argsL := [(.ref b926), (.int (0 : Int32)), (.int m)]) (rest := []) (pc' := 370) W1075 (w32 hw) (w33 hw) (nf_sel W1075 (w35 hw)) (w35 hw) (w34 hw) (w13 hw) (w36 hw) f1077 (rm5 E.l Z a0 hw b1059 b926 m la1075 ca1075 ba1075 fc1029 (nN - 0) h1075 n0 z1078 P1075 NE1075 f1079 hc1029 (by simp only [List.mem_cons, List.not_mem_nil, or_false, not_or]; (repeat' apply And.intro) <;> (intro q; have q1 := Nat.le_of_eq q; have q2 := Nat.le_of_eq (Eq.symm q); omega)) hm (by omega)) (by decide) pd5 rfl rfl rfl (nb rfl) (nb rfl) (nb rfl) (nb rfl) d0_367 rfl ?_
          rintro _ T1081 h1081 ⟨rfl, K1081, nw1081, kp1081, t1081, fl1081, fc1081, fb1081, P1081, AI1081⟩ W1081
          have f1082 := f1076.keep K1081
          have f1083 := f1077.keep K1081
          have z1084 := Nat.le_trans z1078 K1081.1
          have f1085 := f1079.keep K1081 (by simp only [List.mem_cons, List.not_mem_nil, or_false, not_or]; (repeat' apply And.intro) <;> (intro q; have q1 := Nat.le_of_eq q; have q2 := Nat.le_of_eq (Eq.symm q); omega))
          have P1086 := own_Pos_keep P1080 K1081 (by simp only [List.mem_cons, List.not_mem_nil, or_false, not_or]; (repeat' apply And.intro) <;> (intro q; have q1 := Nat.le_of_eq q; have q2 := Nat.le_of_eq (Eq.symm q); omega))
          show Go E _ (Fm E T1081 370 #[.val (.long x0), .second, .val (.long x1), .second, .val (.long x2), .second, .val (.int x3), .val (.int x4), .val (.ref b926), .val (.int n), .val (.int (0 : Int32)), .val (.int m), .val (.ref b1032), .val (.ref b1059), .unset] [])
          have B0 := (own_BI_of AI1049)
          have tp : t1049 = own_st fc1029 (nN - 0) := B0.2.2.1
          have tq : t1081 = own_st fc1029 (nN - 0) := AI1081.2.2.1
          have tpq : t1049 = t1081 := tp.trans tq.symm
          refine go_aload (pc' := 372) W1081 d0_370 rfl rfl rfl ?_
          refine go_callV (a := b1032) (kc := K10) (argsL := []) (rest := []) (pc' := 375) W1081 (w63 hw) (w64 hw) (nf_sel W1081 (w66 hw)) (w66 hw) (w65 hw) (w13 hw) (w67 hw) f1082 (rm10 E.l Z a0 hw b1032 la1045 ca1045 ba1045 nw1049 kp1049 t1049 fl1049 fc1049 fb1049 h1081 n0 z1084 P1086) (by decide) pd6 rfl rfl rfl (nb rfl) (nb rfl) (nb rfl) (nb rfl) d0_372 rfl ?_
          rintro _ T1087 h1087 ⟨rfl, q1087⟩ W1087
          replace W1087 := W1087.sub q1087
          show Go E _ (Fm E T1087 375 #[.val (.long x0), .second, .val (.long x1), .second, .val (.long x2), .second, .val (.int x3), .val (.int x4), .val (.ref b926), .val (.int n), .val (.int (0 : Int32)), .val (.int m), .val (.ref b1032), .val (.ref b1059), .unset] [(.int (t1049).1)])
          refine go_aload (pc' := 377) W1087 d0_375 rfl rfl rfl ?_
          refine go_callV (a := b1059) (kc := K10) (argsL := []) (rest := [(.int (t1049).1)]) (pc' := 380) W1087 (w63 hw) (w64 hw) (nf_sel W1087 (w66 hw)) (w66 hw) (w65 hw) (w13 hw) (w67 hw) f1083 (rm10 E.l Z a0 hw b1059 la1075 ca1075 ba1075 nw1081 kp1081 t1081 fl1081 fc1081 fb1081 h1081 n0 z1084 P1081) (by decide) pd6 rfl rfl rfl (nb rfl) (nb rfl) (nb rfl) (nb rfl) d0_377 rfl ?_
          rintro _ T1088 h1088 ⟨rfl, q1088⟩ W1088
          replace W1088 := W1088.sub q1088
          show Go E _ (Fm E T1088 380 #[.val (.long x0), .second, .val (.long x1), .second, .val (.long x2), .second, .val (.int x3), .val (.int x4), .val (.ref b926), .val (.int n), .val (.int (0 : Int32)), .val (.int m), .val (.ref b1032), .val (.ref b1059), .unset] [(.int (t1081).1), (.int (t1049).1)])
          refine go_icmp_ne (pt := 413) (pf := 383) W1088 d0_380 (by decide) rfl rfl (fun c380_1089 => ?_) (fun c380_1089 => ?_)
          · exact absurd (congrArg (fun t : Tri => t.1) tpq) c380_1089
          · -- pc 380 not taken
            refine go_aload (pc' := 385) W1088 d0_383 rfl rfl rfl ?_
            refine go_callV (a := b1032) (kc := K11) (argsL := []) (rest := []) (pc' := 388) W1088 (w68 hw) (w69 hw) (nf_sel W1088 (w71 hw)) (w71 hw) (w70 hw) (w13 hw) (w72 hw) f1082 (rm11 E.l Z a0 hw b1032 la1045 ca1045 ba1045 nw1049 kp1049 t1049 fl1049 fc1049 fb1049 h1081 n0 z1084 P1086) (by decide) pd6 rfl rfl rfl (nb rfl) (nb rfl) (nb rfl) (nb rfl) d0_385 rfl ?_
            rintro _ T1090 h1090 ⟨rfl, q1090⟩ W1090
            replace W1090 := W1090.sub q1090
            show Go E _ (Fm E T1090 388 #[.val (.long x0), .second, .val (.long x1), .second, .val (.long x2), .second, .val (.int x3), .val (.int x4), .val (.ref b926), .val (.int n), .val (.int (0 : Int32)), .val (.int m), .val (.ref b1032), .val (.ref b1059), .unset] [(.int (t1049).2.1)])
            refine go_aload (pc' := 390) W1090 d0_388 rfl rfl rfl ?_
            refine go_callV (a := b1059) (kc := K11) (argsL := []) (rest := [(.int (t1049).2.1)]) (pc' := 393) W1090 (w68 hw) (w69 hw) (nf_sel W1090 (w71 hw)) (w71 hw) (w70 hw) (w13 hw) (w72 hw) f1083 (rm11 E.l Z a0 hw b1059 la1075 ca1075 ba1075 nw1081 kp1081 t1081 fl1081 fc1081 fb1081 h1081 n0 z1084 P1081) (by decide) pd6 rfl rfl rfl (nb rfl) (nb rfl) (nb rfl) (nb rfl) d0_390 rfl ?_
            rintro _ T1091 h1091 ⟨rfl, q1091⟩ W1091
            replace W1091 := W1091.sub q1091
            show Go E _ (Fm E T1091 393 #[.val (.long x0), .second, .val (.long x1), .second, .val (.long x2), .second, .val (.int x3), .val (.int x4), .val (.ref b926), .val (.int n), .val (.int (0 : Int32)), .val (.int m), .val (.ref b1032), .val (.ref b1059), .unset] [(.int (t1081).2.1), (.int (t1049).2.1)])
            refine go_icmp_ne (pt := 413) (pf := 396) W1091 d0_393 (by decide) rfl rfl (fun c393_1092 => ?_) (fun c393_1092 => ?_)
            · exact absurd (congrArg (fun t : Tri => t.2.1) tpq) c393_1092
            · -- pc 393 not taken
              refine go_aload (pc' := 398) W1091 d0_396 rfl rfl rfl ?_
              refine go_callV (a := b1032) (kc := K12) (argsL := []) (rest := []) (pc' := 401) W1091 (w73 hw) (w74 hw) (nf_sel W1091 (w76 hw)) (w76 hw) (w75 hw) (w13 hw) (w77 hw) f1082 (rm12 E.l Z a0 hw b1032 la1045 ca1045 ba1045 nw1049 kp1049 t1049 fl1049 fc1049 fb1049 h1081 n0 z1084 P1086) (by decide) pd6 rfl rfl rfl (nb rfl) (nb rfl) (nb rfl) (nb rfl) d0_398 rfl ?_
              rintro _ T1093 h1093 ⟨rfl, q1093⟩ W1093
              replace W1093 := W1093.sub q1093
              show Go E _ (Fm E T1093 401 #[.val (.long x0), .second, .val (.long x1), .second, .val (.long x2), .second, .val (.int x3), .val (.int x4), .val (.ref b926), .val (.int n), .val (.int (0 : Int32)), .val (.int m), .val (.ref b1032), .val (.ref b1059), .unset] [(.int (own_nl t1049))])
              refine go_aload (pc' := 403) W1093 d0_401 rfl rfl rfl ?_
              refine go_callV (a := b1059) (kc := K12) (argsL := []) (rest := [(.int (own_nl t1049))]) (pc' := 406) W1093 (w73 hw) (w74 hw) (nf_sel W1093 (w76 hw)) (w76 hw) (w75 hw) (w13 hw) (w77 hw) f1083 (rm12 E.l Z a0 hw b1059 la1075 ca1075 ba1075 nw1081 kp1081 t1081 fl1081 fc1081 fb1081 h1081 n0 z1084 P1081) (by decide) pd6 rfl rfl rfl (nb rfl) (nb rfl) (nb rfl) (nb rfl) d0_403 rfl ?_
              rintro _ T1094 h1094 ⟨rfl, q1094⟩ W1094
              replace W1094 := W1094.sub q1094
              show Go E _ (Fm E T1094 406 #[.val (.long x0), .second, .val (.long x1), .second, .val (.long x2), .second, .val (.int x3), .val (.int x4), .val (.ref b926), .val (.int n), .val (.int (0 : Int32)), .val (.int m), .val (.ref b1032), .val (.ref b1059), .unset] [(.int (own_nl t1081)), (.int (own_nl t1049))])
              refine go_icmp_ne (pt := 413) (pf := 409) W1094 d0_406 (by decide) rfl rfl (fun c406_1095 => ?_) (fun c406_1095 => ?_)
              · exact absurd (congrArg own_nl tpq) c406_1095
              · -- pc 406 not taken
                refine go_iconst (pc' := 410) (z := 1) W1094 d0_409 rfl rfl ?_
                refine go_goto (pc' := 414) W1094 d0_410 (by decide) rfl ?_
                refine go_istore (pc' := 416) (l' := #[.val (.long x0), .second, .val (.long x1), .second, .val (.long x2), .second, .val (.int x3), .val (.int x4), .val (.ref b926), .val (.int n), .val (.int (0 : Int32)), .val (.int m), .val (.ref b1032), .val (.ref b1059), .val (.int (1 : Int32))]) W1094 d0_414 rfl rfl ?_
                refine go_aload (pc' := 418) W1094 d0_416 rfl rfl rfl ?_
                refine go_bipush (pc' := 420) (z := 10) W1094 d0_418 (by decide) rfl ?_
                refine go_callV (a := b1032) (kc := K6) (argsL := [(.int (10 : Int32))]) (rest := []) (pc' := 423) W1094 (w78 hw) (w39 hw) (nf_sel W1094 (w41 hw)) (w41 hw) (w40 hw) (w13 hw) (w42 hw) f1082 (rm6 E.l Z a0 hw b1032 (10 : Int32) la1045 ca1045 ba1045 nw1049 kp1049 t1049 fl1049 fc1049 fb1049 h1081 n0 z1084 P1086 NE1045 B0.1 B0.2.2.2.2.2.2.1) (by decide) pd2 rfl rfl rfl (nb rfl) (nb rfl) (nb rfl) (nb rfl) d0_420 rfl ?_
                rintro _ T1096 h1096 ⟨rfl, K1096, P1096⟩ W1096
                have f1097 := f1082.keep K1096
                have f1098 := f1083.keep K1096
                have z1099 := Nat.le_trans z1084 K1096.1
                have f1100 := f1085.keep K1096 (by simp only [List.mem_cons, List.not_mem_nil, or_false, not_or]; (repeat' apply And.intro) <;> (intro q; have q1 := Nat.le_of_eq q; have q2 := Nat.le_of_eq (Eq.symm q); omega))
                have P1101 := own_Pos_keep P1081 K1096 (by simp only [List.mem_cons, List.not_mem_nil, or_false, not_or]; (repeat' apply And.intro) <;> (intro q; have q1 := Nat.le_of_eq q; have q2 := Nat.le_of_eq (Eq.symm q); omega))
                show Go E _ (Fm E T1096 423 #[.val (.long x0), .second, .val (.long x1), .second, .val (.long x2), .second, .val (.int x3), .val (.int x4), .val (.ref b926), .val (.int n), .val (.int (0 : Int32)), .val (.int m), .val (.ref b1032), .val (.ref b1059), .val (.int (1 : Int32))] [])
                refine go_aload (pc' := 425) W1096 d0_423 rfl rfl rfl ?_
                refine go_bipush (pc' := 427) (z := 10) W1096 d0_425 (by decide) rfl ?_
                refine go_callV (a := b1059) (kc := K6) (argsL := [(.int (10 : Int32))]) (rest := []) (pc' := 430) W1096 (w78 hw) (w39 hw) (nf_sel W1096 (w41 hw)) (w41 hw) (w40 hw) (w13 hw) (w42 hw) f1098 (rm6 E.l Z a0 hw b1059 (10 : Int32) la1075 ca1075 ba1075 nw1081 kp1081 t1081 fl1081 fc1081 fb1081 h1096 n0 z1099 P1101 NE1075 AI1081.1 AI1081.2.2.2.2.2.2.1) (by decide) pd2 rfl rfl rfl (nb rfl) (nb rfl) (nb rfl) (nb rfl) d0_427 rfl ?_
                rintro _ T1102 h1102 ⟨rfl, K1102, P1102⟩ W1102
                have f1103 := f1097.keep K1102
                have f1104 := f1098.keep K1102
                have z1105 := Nat.le_trans z1099 K1102.1
                have f1106 := f1100.keep K1102 (by simp only [List.mem_cons, List.not_mem_nil, or_false, not_or]; (repeat' apply And.intro) <;> (intro q; have q1 := Nat.le_of_eq q; have q2 := Nat.le_of_eq (Eq.symm q); omega))
                have P1107 := own_Pos_keep P1096 K1102 (by simp only [List.mem_cons, List.not_mem_nil, or_false, not_or]; (repeat' apply And.intro) <;> (intro q; have q1 := Nat.le_of_eq q; have q2 := Nat.le_of_eq (Eq.symm q); omega))
                show Go E _ (Fm E T1102 430 #[.val (.long x0), .second, .val (.long x1), .second, .val (.long x2), .second, .val (.int x3), .val (.int x4), .val (.ref b926), .val (.int n), .val (.int (0 : Int32)), .val (.int m), .val (.ref b1032), .val (.ref b1059), .val (.int (1 : Int32))] [])
                refine go_iload (pc' := 432) W1102 d0_430 rfl rfl ?_
                refine go_if_eq (pt := 452) (pf := 435) W1102 d0_432 (by decide) rfl rfl (fun c432_1108 => ?_) (fun c432_1108 => ?_)
                · exact absurd c432_1108 (by decide)
                · -- pc 432 not taken
                  refine go_aload (pc' := 437) W1102 d0_435 rfl rfl rfl ?_
                  refine go_callV (a := b1032) (kc := K10) (argsL := []) (rest := []) (pc' := 440) W1102 (w63 hw) (w64 hw) (nf_sel W1102 (w66 hw)) (w66 hw) (w65 hw) (w13 hw) (w67 hw) f1103 (rm10 E.l Z a0 hw b1032 la1045 ca1045 ba1045 ((nw1049 + 1) % 16) (own_min (kp1049 + 1) 16) (own_step t1049 (10 : Int32)) (own_upd fl1049 (own_ix ((nw1049 + 1) % 16)) t1049.1) (own_upd fc1049 (own_ix ((nw1049 + 1) % 16)) t1049.2.1) (own_upd fb1049 (own_ix ((nw1049 + 1) % 16)) t1049.2.2) h1102 n0 z1105 P1107) (by decide) pd6 rfl rfl rfl (nb rfl) (nb rfl) (nb rfl) (nb rfl) d0_437 rfl ?_
                  rintro _ T1109 h1109 ⟨rfl, q1109⟩ W1109
                  replace W1109 := W1109.sub q1109
                  show Go E _ (Fm E T1109 440 #[.val (.long x0), .second, .val (.long x1), .second, .val (.long x2), .second, .val (.int x3), .val (.int x4), .val (.ref b926), .val (.int n), .val (.int (0 : Int32)), .val (.int m), .val (.ref b1032), .val (.ref b1059), .val (.int (1 : Int32))] [(.int ((own_step t1049 (10 : Int32))).1)])
                  refine go_aload (pc' := 442) W1109 d0_440 rfl rfl rfl ?_
                  refine go_callV (a := b1059) (kc := K10) (argsL := []) (rest := [(.int ((own_step t1049 (10 : Int32))).1)]) (pc' := 445) W1109 (w63 hw) (w64 hw) (nf_sel W1109 (w66 hw)) (w66 hw) (w65 hw) (w13 hw) (w67 hw) f1104 (rm10 E.l Z a0 hw b1059 la1075 ca1075 ba1075 ((nw1081 + 1) % 16) (own_min (kp1081 + 1) 16) (own_step t1081 (10 : Int32)) (own_upd fl1081 (own_ix ((nw1081 + 1) % 16)) t1081.1) (own_upd fc1081 (own_ix ((nw1081 + 1) % 16)) t1081.2.1) (own_upd fb1081 (own_ix ((nw1081 + 1) % 16)) t1081.2.2) h1102 n0 z1105 P1102) (by decide) pd6 rfl rfl rfl (nb rfl) (nb rfl) (nb rfl) (nb rfl) d0_442 rfl ?_
                  rintro _ T1110 h1110 ⟨rfl, q1110⟩ W1110
                  replace W1110 := W1110.sub q1110
                  show Go E _ (Fm E T1110 445 #[.val (.long x0), .second, .val (.long x1), .second, .val (.long x2), .second, .val (.int x3), .val (.int x4), .val (.ref b926), .val (.int n), .val (.int (0 : Int32)), .val (.int m), .val (.ref b1032), .val (.ref b1059), .val (.int (1 : Int32))] [(.int ((own_step t1081 (10 : Int32))).1), (.int ((own_step t1049 (10 : Int32))).1)])
                  refine go_icmp_ne (pt := 452) (pf := 448) W1110 d0_445 (by decide) rfl rfl (fun c445_1111 => ?_) (fun c445_1111 => ?_)
                  · exact absurd (congrArg (fun t : Tri => (own_step t (10 : Int32)).1) tpq) c445_1111
                  · -- pc 445 not taken
                    refine go_iconst (pc' := 449) (z := 1) W1110 d0_448 rfl rfl ?_
                    refine go_goto (pc' := 453) W1110 d0_449 (by decide) rfl ?_
                    exact go_retI W1110 (t := .boolean) rfl (by simp) rfl d0_453 (nb rfl) (nb rfl) (rfl)
        · exact absurd c343_1055 (by decide)
      · exact absurd c332_1054 (by decide)
    · exact absurd c321_1053 (by decide)
  · rw [hk]
    show Go E _ (Fm E T1026 288 #[.val (.long x0), .second, .val (.long x1), .second, .val (.long x2), .second, .val (.int x3), .val (.int x4), .val (.ref b926), .val (.int n), .val (.int (1 : Int32)), .unset, .unset, .unset, .unset] [])
    refine go_iload (pc' := 290) W1026 d0_288 rfl rfl ?_
    refine go_iload (pc' := 292) W1026 d0_290 rfl rfl ?_
    refine go_isub (pc' := 293) W1026 d0_292 rfl ?_
    refine go_iconst (pc' := 294) (z := 0) W1026 d0_293 rfl rfl ?_
    refine go_callS (kc := K2) (argsL := [(.int (n - (1 : Int32))), (.int (0 : Int32))]) (rest := []) (pc' := 297) W1026 (w7 hw) (w8 hw) (w9 hw) (w10 hw) (rm2 E.l Z a0 hw (n - (1 : Int32)) (0 : Int32) h1026 n0 z1028) (by decide) pd0 rfl rfl rfl (nb rfl) (nb rfl) (nb rfl) (nb rfl) d0_294 rfl ?_
    rintro _ T1112 h1112 ⟨rfl, q1112⟩ W1112
    replace W1112 := W1112.sub q1112
    show Go E _ (Fm E T1112 297 #[.val (.long x0), .second, .val (.long x1), .second, .val (.long x2), .second, .val (.int x3), .val (.int x4), .val (.ref b926), .val (.int n), .val (.int (1 : Int32)), .unset, .unset, .unset, .unset] [(.int (own_max (n - (1 : Int32)) (0 : Int32)))])
    refine go_istore (pc' := 299) (l' := #[.val (.long x0), .second, .val (.long x1), .second, .val (.long x2), .second, .val (.int x3), .val (.int x4), .val (.ref b926), .val (.int n), .val (.int (1 : Int32)), .val (.int (own_max (n - (1 : Int32)) (0 : Int32))), .unset, .unset, .unset]) W1112 d0_297 rfl rfl ?_
    have hm := own_mm n (1 : Int32) nN 1 hn hn20 rfl (by decide)
    generalize (own_max (n - (1 : Int32)) (0 : Int32)) = m at hm ⊢
    show Go E _ (Fm E T1112 299 #[.val (.long x0), .second, .val (.long x1), .second, .val (.long x2), .second, .val (.int x3), .val (.int x4), .val (.ref b926), .val (.int n), .val (.int (1 : Int32)), .val (.int m), .unset, .unset, .unset] [])
    have lt1113 := Nat.lt_of_lt_of_le af1029.lt (Nat.le_refl _)
    refine go_new (pc' := 302) W1112 (w11 hw) (w12 hw) (w13 hw) d0_299 (nb rfl) (nb rfl) rfl ?_
    intro T1114 h1114 b1114 g1114 W1114 E1114 A1114 D1114 M1114
    have ne1115 : b926 ≠ b1114 := by rw [g1114]; exact Nat.ne_of_lt af1029.lt
    have ge1116 : n0 ≤ b1114 := by rw [g1114]; exact z1028
    have g1114x := Nat.le_of_eq g1114
    have g1114y := Nat.le_of_eq (Eq.symm g1114)
    have E1114x := E1114.1
    have f1117 := af1029.ext E1114
    have z1118 := Nat.le_trans z1028 E1114.1
    have f1119 : Fld Z h1114 b1114 "com/example/hornstone/hornstone/read/Position" "lines" "[I" .null := D1114 (Or.inr (w22 hw)) (ty := (.array .int)) (by decide)
    have f1120 : Fld Z h1114 b1114 "com/example/hornstone/hornstone/read/Position" "columns" "[I" .null := D1114 (Or.inr (w24 hw)) (ty := (.array .int)) (by decide)
    have f1121 : Fld Z h1114 b1114 "com/example/hornstone/hornstone/read/Position" "breaks" "[B" .null := D1114 (Or.inr (w27 hw)) (ty := (.array .byte)) (by decide)
    have f1122 : Fld Z h1114 b1114 "com/example/hornstone/hornstone/read/Position" "line" "I" (.int (0 : Int32)) := D1114 (Or.inl (w29 hw)) (ty := .int) (by decide)
    have f1123 : Fld Z h1114 b1114 "com/example/hornstone/hornstone/read/Position" "lastBreak" "B" (.int (0 : Int32)) := D1114 (Or.inl (w31 hw)) (ty := .byte) (by decide)
    have f1124 : Fld Z h1114 b1114 "com/example/hornstone/hornstone/read/Position" "newest" "I" (.int (0 : Int32)) := D1114 (Or.inl (w44 hw)) (ty := .int) (by decide)
    have f1125 : Fld Z h1114 b1114 "com/example/hornstone/hornstone/read/Position" "column" "I" (.int (0 : Int32)) := D1114 (Or.inl (w46 hw)) (ty := .int) (by decide)
    have f1126 : Fld Z h1114 b1114 "com/example/hornstone/hornstone/read/Position" "kept" "I" (.int (0 : Int32)) := D1114 (Or.inl (w48 hw)) (ty := .int) (by decide)
    refine go_dup (pc' := 303) W1114 d0_302 rfl rfl ?_
    refine go_callN (a := b1114) (kc := K3) (argsL := []) (rest := [(.ref b1114)]) (pc' := 306) W1114 (w14 hw) (w15 hw) (w13 hw) (w16 hw) (rm3 E.l Z a0 hw b1114 h1114 n0 z1118 A1114 f1119 f1120 f1121 f1124 f1126 f1122 f1125 f1123 ge1116) rfl rfl (by decide) pd4 rfl rfl rfl (nb rfl) (nb rfl) (nb rfl) (nb rfl) d0_303 rfl ?_
    rintro _ T1127 h1127 ⟨la1127, ca1127, ba1127, rfl, NE1127, s11127, s21127, s31127, K1127, P1127⟩ W1127
    have f1128 := A1114.keep K1127
    have z1129 := Nat.le_trans z1118 K1127.1
    have f1130 := f1117.keep K1127 (by simp only [List.mem_cons, List.not_mem_nil, or_false, not_or]; (repeat' apply And.intro) <;> (intro q; have q1 := Nat.le_of_eq q; have q2 := Nat.le_of_eq (Eq.symm q); omega))
    show Go E _ (Fm E T1127 306 #[.val (.long x0), .second, .val (.long x1), .second, .val (.long x2), .second, .val (.int x3), .val (.int x4), .val (.ref b926), .val (.int n), .val (.int (1 : Int32)), .val (.int m), .unset, .unset, .unset] [(.ref b1114)])
    refine go_astore (pc' := 308) (l' := #[.val (.long x0), .second, .val (.long x1), .second, .val (.long x2), .second, .val (.int x3), .val (.int x4), .val (.ref b926), .val (.int n), .val (.int (1 : Int32)), .val (.int m), .val (.ref b1114), .unset, .unset]) W1127 d0_306 rfl rfl rfl ?_
    refine go_aload (pc' := 310) W1127 d0_308 rfl rfl rfl ?_
    refine go_aload (pc' := 312) W1127 d0_310 rfl rfl rfl ?_
    refine go_iconst (pc' := 313) (z := 0) W1127 d0_312 rfl rfl ?_
    refine go_iload (pc' := 315) W1127 d0_313 rfl rfl ?_
    refine go_callV (a := b1114) (kc := K5) (argsL := [(.ref b926), (.int (0 : Int32)), (.int n)]) (rest := []) (pc' := 318) W1127 (w32 hw) (w33 hw) (nf_sel W1127 (w35 hw)) (w35 hw) (w34 hw) (w13 hw) (w36 hw) f1128 (rm5 E.l Z a0 hw b1114 b926 n la1127 ca1127 ba1127 fc1029 nN h1127 n0 z1129 P1127 NE1127 f1130 hc1029 (by simp only [List.mem_cons, List.not_mem_nil, or_false, not_or]; (repeat' apply And.intro) <;> (intro q; have q1 := Nat.le_of_eq q; have q2 := Nat.le_of_eq (Eq.symm q); omega)) hn hn20) (by decide) pd5 rfl rfl rfl (nb rfl) (nb rfl) (nb rfl) (nb rfl) d0_315 rfl ?_
    rintro _ T1131 h1131 ⟨rfl, K1131, nw1131, kp1131, t1131, fl1131, fc1131, fb1131, P1131, AI1131⟩ W1131
    have f1132 := f1128.keep K1131
    have z1133 := Nat.le_trans z1129 K1131.1
    have f1134 := f1130.keep K1131 (by simp only [List.mem_cons, List.not_mem_nil, or_false, not_or]; (repeat' apply And.intro) <;> (intro q; have q1 := Nat.le_of_eq q; have q2 := Nat.le_of_eq (Eq.symm q); omega))
    show Go E _ (Fm E T1131 318 #[.val (.long x0), .second, .val (.long x1), .second, .val (.long x2), .second, .val (.int x3), .val (.int x4), .val (.ref b926), .val (.int n), .val (.int (1 : Int32)), .val (.int m), .val (.ref b1114), .unset, .unset] [])
    refine go_iload (pc' := 320) W1131 d0_318 rfl rfl ?_
    refine go_iconst (pc' := 321) (z := 1) W1131 d0_320 rfl rfl ?_
    refine go_icmp_lt (pt := 329) (pf := 324) W1131 d0_321 (by decide) rfl rfl (fun c321_1135 => ?_) (fun c321_1135 => ?_)
    · exact absurd c321_1135 (by decide)
    · -- pc 321 not taken
      refine go_aload (pc' := 326) W1131 d0_324 rfl rfl rfl ?_
      refine go_callV (a := b1114) (kc := K9) (argsL := []) (rest := []) (pc' := 329) W1131 (w58 hw) (w59 hw) (nf_sel W1131 (w61 hw)) (w61 hw) (w60 hw) (w13 hw) (w62 hw) f1132 (rm9 E.l Z a0 hw b1114 la1127 ca1127 ba1127 nw1131 kp1131 t1131 fl1131 fc1131 fb1131 h1131 n0 z1133 P1131 NE1127 (own_BI_of AI1131).1 (own_BI_of AI1131).2.2.2.2.2.2.2) (by decide) pd4 rfl rfl rfl (nb rfl) (nb rfl) (nb rfl) (nb rfl) d0_326 rfl ?_
      rintro _ T1136 h1136 ⟨rfl, K1136, P1136⟩ W1136
      have B1136 := own_BI_step (own_BI_of AI1131) (by decide) (fun q => by omega)
      have f1137 := f1132.keep K1136
      have z1138 := Nat.le_trans z1133 K1136.1
      have f1139 := f1134.keep K1136 (by simp only [List.mem_cons, List.not_mem_nil, or_false, not_or]; (repeat' apply And.intro) <;> (intro q; have q1 := Nat.le_of_eq q; have q2 := Nat.le_of_eq (Eq.symm q); omega))
      show Go E _ (Fm E T1136 329 #[.val (.long x0), .second, .val (.long x1), .second, .val (.long x2), .second, .val (.int x3), .val (.int x4), .val (.ref b926), .val (.int n), .val (.int (1 : Int32)), .val (.int m), .val (.ref b1114), .unset, .unset] [])
      refine go_iload (pc' := 331) W1136 d0_329 rfl rfl ?_
      refine go_iconst (pc' := 332) (z := 2) W1136 d0_331 rfl rfl ?_
      refine go_icmp_lt (pt := 340) (pf := 335) W1136 d0_332 (by decide) rfl rfl (fun c332_1140 => ?_) (fun c332_1140 => ?_)
      · -- pc 332 taken
        refine go_iload (pc' := 342) W1136 d0_340 rfl rfl ?_
        refine go_iconst (pc' := 343) (z := 3) W1136 d0_342 rfl rfl ?_
        refine go_icmp_lt (pt := 351) (pf := 346) W1136 d0_343 (by decide) rfl rfl (fun c343_1141 => ?_) (fun c343_1141 => ?_)
        · -- pc 343 taken
          have lt1143 := Nat.lt_of_lt_of_le f1139.lt (Nat.le_refl _)
          obtain ⟨lt1144, lu1144, lv1144, lw1144⟩ := own_Pos_lt P1136
          have lt1144n := Nat.lt_of_lt_of_le lt1144 (Nat.le_refl _)
          have lu1144n := Nat.lt_of_lt_of_le lu1144 (Nat.le_refl _)
          have lv1144n := Nat.lt_of_lt_of_le lv1144 (Nat.le_refl _)
          have lw1144n := Nat.lt_of_lt_of_le lw1144 (Nat.le_refl _)
          refine go_new (pc' := 354) W1136 (w11 hw) (w12 hw) (w13 hw) d0_351 (nb rfl) (nb rfl) rfl ?_
          intro T1145 h1145 b1145 g1145 W1145 E1145 A1145 D1145 M1145
          have ne1146 : b1114 ≠ b1145 := by rw [g1145]; exact Nat.ne_of_lt f1137.lt
          have ne1147 : b926 ≠ b1145 := by rw [g1145]; exact Nat.ne_of_lt f1139.lt
          have ge1148 : n0 ≤ b1145 := by rw [g1145]; exact z1138
          have g1145x := Nat.le_of_eq g1145
          have g1145y := Nat.le_of_eq (Eq.symm g1145)
          have E1145x := E1145.1
          have f1149 := f1137.ext E1145
          have f1150 := f1139.ext E1145
          have z1151 := Nat.le_trans z1138 E1145.1
          have P1152 := own_Pos_ext P1136 E1145
          have f1153 : Fld Z h1145 b1145 "com/example/hornstone/hornstone/read/Position" "lines" "[I" .null := D1145 (Or.inr (w22 hw)) (ty := (.array .int)) (by decide)
          have f1154 : Fld Z h1145 b1145 "com/example/hornstone/hornstone/read/Position" "columns" "[I" .null := D1145 (Or.inr (w24 hw)) (ty := (.array .int)) (by decide)
          have f1155 : Fld Z h1145 b1145 "com/example/hornstone/hornstone/read/Position" "breaks" "[B" .null := D1145 (Or.inr (w27 hw)) (ty := (.array .byte)) (by decide)
          have f1156 : Fld Z h1145 b1145 "com/example/hornstone/hornstone/read/Position" "line" "I" (.int (0 : Int32)) := D1145 (Or.inl (w29 hw)) (ty := .int) (by decide)
          have f1157 : Fld Z h1145 b1145 "com/example/hornstone/hornstone/read/Position" "lastBreak" "B" (.int (0 : Int32)) := D1145 (Or.inl (w31 hw)) (ty := .byte) (by decide)
          have f1158 : Fld Z h1145 b1145 "com/example/hornstone/hornstone/read/Position" "newest" "I" (.int (0 : Int32)) := D1145 (Or.inl (w44 hw)) (ty := .int) (by decide)
          have f1159 : Fld Z h1145 b1145 "com/example/hornstone/hornstone/read/Position" "column" "I" (.int (0 : Int32)) := D1145 (Or.inl (w46 hw)) (ty := .int) (by decide)
          have f1160 : Fld Z h1145 b1145 "com/example/hornstone/hornstone/read/Position" "kept" "I" (.int (0 : Int32)) := D1145 (Or.inl (w48 hw)) (ty := .int) (by decide)
          refine go_dup (pc' := 355) W1145 d0_354 rfl rfl ?_
          refine go_callN (a := b1145) (kc := K3) (argsL := []) (rest := [(.ref b1145)]) (pc' := 358) W1145 (w14 hw) (w15 hw) (w13 hw) (w16 hw) (rm3 E.l Z a0 hw b1145 h1145 n0 z1151 A1145 f1153 f1154 f1155 f1158 f1160 f1156 f1159 f1157 ge1148) rfl rfl (by decide) pd4 rfl rfl rfl (nb rfl) (nb rfl) (nb rfl) (nb rfl) d0_355 rfl ?_
          rintro _ T1161 h1161 ⟨la1161, ca1161, ba1161, rfl, NE1161, s11161, s21161, s31161, K1161, P1161⟩ W1161
          have f1162 := f1149.keep K1161
          have f1163 := A1145.keep K1161
          have z1164 := Nat.le_trans z1151 K1161.1
          have f1165 := f1150.keep K1161 (by simp only [List.mem_cons, List.not_mem_nil, or_false, not_or]; (repeat' apply And.intro) <;> (intro q; have q1 := Nat.le_of_eq q; have q2 := Nat.le_of_eq (Eq.symm q); omega))
          have P1166 := own_Pos_keep P1152 K1161 (by simp only [List.mem_cons, List.not_mem_nil, or_false, not_or]; (repeat' apply And.intro) <;> (intro q; have q1 := Nat.le_of_eq q; have q2 := Nat.le_of_eq (Eq.symm q); omega))
          show Go E _ (Fm E T1161 358 #[.val (.long x0), .second, .val (.long x1), .second, .val (.long x2), .second, .val (.int x3), .val (.int x4), .val (.ref b926), .val (.int n), .val (.int (1 : Int32)), .val (.int m), .val (.ref b1114), .unset, .unset] [(.ref b1145)])
          refine go_astore (pc' := 360) (l' := #[.val (.long x0), .second, .val (.long x1), .second, .val (.long x2), .second, .val (.int x3), .val (.int x4), .val (.ref b926), .val (.int n), .val (.int (1 : Int32)), .val (.int m), .val (.ref b1114), .val (.ref b1145), .unset]) W1161 d0_358 rfl rfl rfl ?_
          refine go_aload (pc' := 362) W1161 d0_360 rfl rfl rfl ?_
          refine go_aload (pc' := 364) W1161 d0_362 rfl rfl rfl ?_
          refine go_iconst (pc' := 365) (z := 0) W1161 d0_364 rfl rfl ?_
          refine go_iload (pc' := 367) W1161 d0_365 rfl rfl ?_
          refine go_callV (a := b1145) (kc := K5) (argsL := [(.ref b926), (.int (0 : Int32)), (.int m)]) (rest := []) (pc' := 370) W1161 (w32 hw) (w33 hw) (nf_sel W1161 (w35 hw)) (w35 hw) (w34 hw) (w13 hw) (w36 hw) f1163 (rm5 E.l Z a0 hw b1145 b926 m la1161 ca1161 ba1161 fc1029 (nN - 1) h1161 n0 z1164 P1161 NE1161 f1165 hc1029 (by simp only [List.mem_cons, List.not_mem_nil, or_false, not_or]; (repeat' apply And.intro) <;> (intro q; have q1 := Nat.le_of_eq q; have q2 := Nat.le_of_eq (Eq.symm q); omega)) hm (by omega)) (by decide) pd5 rfl rfl rfl (nb rfl) (nb rfl) (nb rfl) (nb rfl) d0_367 rfl ?_
          rintro _ T1167 h1167 ⟨rfl, K1167, nw1167, kp1167, t1167, fl1167, fc1167, fb1167, P1167, AI1167⟩ W1167
          have f1168 := f1162.keep K1167
          have f1169 := f1163.keep K1167
          have z1170 := Nat.le_trans z1164 K1167.1
          have f1171 := f1165.keep K1167 (by simp only [List.mem_cons, List.not_mem_nil, or_false, not_or]; (repeat' apply And.intro) <;> (intro q; have q1 := Nat.le_of_eq q; have q2 := Nat.le_of_eq (Eq.symm q); omega))
          have P1172 := own_Pos_keep P1166 K1167 (by simp only [List.mem_cons, List.not_mem_nil, or_false, not_or]; (repeat' apply And.intro) <;> (intro q; have q1 := Nat.le_of_eq q; have q2 := Nat.le_of_eq (Eq.symm q); omega))
          show Go E _ (Fm E T1167 370 #[.val (.long x0), .second, .val (.long x1), .second, .val (.long x2), .second, .val (.int x3), .val (.int x4), .val (.ref b926), .val (.int n), .val (.int (1 : Int32)), .val (.int m), .val (.ref b1114), .val (.ref b1145), .unset] [])
          have B0 := B1136
          have tp : (own_sbT kp1131 nw1131 t1131 fl1131 fc1131 fb1131) = own_st fc1029 (nN - 1) := B0.2.2.1
          have tq : t1167 = own_st fc1029 (nN - 1) := AI1167.2.2.1
          have tpq : (own_sbT kp1131 nw1131 t1131 fl1131 fc1131 fb1131) = t1167 := tp.trans tq.symm
          refine go_aload (pc' := 372) W1167 d0_370 rfl rfl rfl ?_
          refine go_callV (a := b1114) (kc := K10) (argsL := []) (rest := []) (pc' := 375) W1167 (w63 hw) (w64 hw) (nf_sel W1167 (w66 hw)) (w66 hw) (w65 hw) (w13 hw) (w67 hw) f1168 (rm10 E.l Z a0 hw b1114 la1127 ca1127 ba1127 (own_sbN kp1131 nw1131) (own_sbK kp1131) (own_sbT kp1131 nw1131 t1131 fl1131 fc1131 fb1131) fl1131 fc1131 fb1131 h1167 n0 z1170 P1172) (by decide) pd6 rfl rfl rfl (nb rfl) (nb rfl) (nb rfl) (nb rfl) d0_372 rfl ?_
          rintro _ T1173 h1173 ⟨rfl, q1173⟩ W1173
          replace W1173 := W1173.sub q1173
          show Go E _ (Fm E T1173 375 #[.val (.long x0), .second, .val (.long x1), .second, .val (.long x2), .second, .val (.int x3), .val (.int x4), .val (.ref b926), .val (.int n), .val (.int (1 : Int32)), .val (.int m), .val (.ref b1114), .val (.ref b1145), .unset] [(.int ((own_sbT kp1131 nw1131 t1131 fl1131 fc1131 fb1131)).1)])
          refine go_aload (pc' := 377) W1173 d0_375 rfl rfl rfl ?_
          refine go_callV (a := b1145) (kc := K10) (argsL := []) (rest := [(.int ((own_sbT kp1131 nw1131 t1131 fl1131 fc1131 fb1131)).1)]) (pc' := 380) W1173 (w63 hw) (w64 hw) (nf_sel W1173 (w66 hw)) (w66 hw) (w65 hw) (w13 hw) (w67 hw) f1169 (rm10 E.l Z a0 hw b1145 la1161 ca1161 ba1161 nw1167 kp1167 t1167 fl1167 fc1167 fb1167 h1167 n0 z1170 P1167) (by decide) pd6 rfl rfl rfl (nb rfl) (nb rfl) (nb rfl) (nb rfl) d0_377 rfl ?_
          rintro _ T1174 h1174 ⟨rfl, q1174⟩ W1174
          replace W1174 := W1174.sub q1174
          show Go E _ (Fm E T1174 380 #[.val (.long x0), .second, .val (.long x1), .second, .val (.long x2), .second, .val (.int x3), .val (.int x4), .val (.ref b926), .val (.int n), .val (.int (1 : Int32)), .val (.int m), .val (.ref b1114), .val (.ref b1145), .unset] [(.int (t1167).1), (.int ((own_sbT kp1131 nw1131 t1131 fl1131 fc1131 fb1131)).1)])
          refine go_icmp_ne (pt := 413) (pf := 383) W1174 d0_380 (by decide) rfl rfl (fun c380_1175 => ?_) (fun c380_1175 => ?_)
          · exact absurd (congrArg (fun t : Tri => t.1) tpq) c380_1175
          · -- pc 380 not taken
            refine go_aload (pc' := 385) W1174 d0_383 rfl rfl rfl ?_
            refine go_callV (a := b1114) (kc := K11) (argsL := []) (rest := []) (pc' := 388) W1174 (w68 hw) (w69 hw) (nf_sel W1174 (w71 hw)) (w71 hw) (w70 hw) (w13 hw) (w72 hw) f1168 (rm11 E.l Z a0 hw b1114 la1127 ca1127 ba1127 (own_sbN kp1131 nw1131) (own_sbK kp1131) (own_sbT kp1131 nw1131 t1131 fl1131 fc1131 fb1131) fl1131 fc1131 fb1131 h1167 n0 z1170 P1172) (by decide) pd6 rfl rfl rfl (nb rfl) (nb rfl) (nb rfl) (nb rfl) d0_385 rfl ?_
            rintro _ T1176 h1176 ⟨rfl, q1176⟩ W1176
            replace W1176 := W1176.sub q1176
            show Go E _ (Fm E T1176 388 #[.val (.long x0), .second, .val (.long x1), .second, .val (.long x2), .second, .val (.int x3), .val (.int x4), .val (.ref b926), .val (.int n), .val (.int (1 : Int32)), .val (.int m), .val (.ref b1114), .val (.ref b1145), .unset] [(.int ((own_sbT kp1131 nw1131 t1131 fl1131 fc1131 fb1131)).2.1)])
            refine go_aload (pc' := 390) W1176 d0_388 rfl rfl rfl ?_
            refine go_callV (a := b1145) (kc := K11) (argsL := []) (rest := [(.int ((own_sbT kp1131 nw1131 t1131 fl1131 fc1131 fb1131)).2.1)]) (pc' := 393) W1176 (w68 hw) (w69 hw) (nf_sel W1176 (w71 hw)) (w71 hw) (w70 hw) (w13 hw) (w72 hw) f1169 (rm11 E.l Z a0 hw b1145 la1161 ca1161 ba1161 nw1167 kp1167 t1167 fl1167 fc1167 fb1167 h1167 n0 z1170 P1167) (by decide) pd6 rfl rfl rfl (nb rfl) (nb rfl) (nb rfl) (nb rfl) d0_390 rfl ?_
            rintro _ T1177 h1177 ⟨rfl, q1177⟩ W1177
            replace W1177 := W1177.sub q1177
            show Go E _ (Fm E T1177 393 #[.val (.long x0), .second, .val (.long x1), .second, .val (.long x2), .second, .val (.int x3), .val (.int x4), .val (.ref b926), .val (.int n), .val (.int (1 : Int32)), .val (.int m), .val (.ref b1114), .val (.ref b1145), .unset] [(.int (t1167).2.1), (.int ((own_sbT kp1131 nw1131 t1131 fl1131 fc1131 fb1131)).2.1)])
            refine go_icmp_ne (pt := 413) (pf := 396) W1177 d0_393 (by decide) rfl rfl (fun c393_1178 => ?_) (fun c393_1178 => ?_)
            · exact absurd (congrArg (fun t : Tri => t.2.1) tpq) c393_1178
            · -- pc 393 not taken
              refine go_aload (pc' := 398) W1177 d0_396 rfl rfl rfl ?_
              refine go_callV (a := b1114) (kc := K12) (argsL := []) (rest := []) (pc' := 401) W1177 (w73 hw) (w74 hw) (nf_sel W1177 (w76 hw)) (w76 hw) (w75 hw) (w13 hw) (w77 hw) f1168 (rm12 E.l Z a0 hw b1114 la1127 ca1127 ba1127 (own_sbN kp1131 nw1131) (own_sbK kp1131) (own_sbT kp1131 nw1131 t1131 fl1131 fc1131 fb1131) fl1131 fc1131 fb1131 h1167 n0 z1170 P1172) (by decide) pd6 rfl rfl rfl (nb rfl) (nb rfl) (nb rfl) (nb rfl) d0_398 rfl ?_
              rintro _ T1179 h1179 ⟨rfl, q1179⟩ W1179
              replace W1179 := W1179.sub q1179
              show Go E _ (Fm E T1179 401 #[.val (.long x0), .second, .val (.long x1), .second, .val (.long x2), .second, .val (.int x3), .val (.int x4), .val (.ref b926), .val (.int n), .val (.int (1 : Int32)), .val (.int m), .val (.ref b1114), .val (.ref b1145), .unset] [(.int (own_nl (own_sbT kp1131 nw1131 t1131 fl1131 fc1131 fb1131)))])
              refine go_aload (pc' := 403) W1179 d0_401 rfl rfl rfl ?_
              refine go_callV (a := b1145) (kc := K12) (argsL := []) (rest := [(.int (own_nl (own_sbT kp1131 nw1131 t1131 fl1131 fc1131 fb1131)))]) (pc' := 406) W1179 (w73 hw) (w74 hw) (nf_sel W1179 (w76 hw)) (w76 hw) (w75 hw) (w13 hw) (w77 hw) f1169 (rm12 E.l Z a0 hw b1145 la1161 ca1161 ba1161 nw1167 kp1167 t1167 fl1167 fc1167 fb1167 h1167 n0 z1170 P1167) (by decide) pd6 rfl rfl rfl (nb rfl) (nb rfl) (nb rfl) (nb rfl) d0_403 rfl ?_
              rintro _ T1180 h1180 ⟨rfl, q1180⟩ W1180
              replace W1180 := W1180.sub q1180
              show Go E _ (Fm E T1180 406 #[.val (.long x0), .second, .val (.long x1), .second, .val (.long x2), .second, .val (.int x3), .val (.int x4), .val (.ref b926), .val (.int n), .val (.int (1 : Int32)), .val (.int m), .val (.ref b1114), .val (.ref b1145), .unset] [(.int (own_nl t1167)), (.int (own_nl (own_sbT kp1131 nw1131 t1131 fl1131 fc1131 fb1131)))])
              refine go_icmp_ne (pt := 413) (pf := 409) W1180 d0_406 (by decide) rfl rfl (fun c406_1181 => ?_) (fun c406_1181 => ?_)
              · exact absurd (congrArg own_nl tpq) c406_1181
              · -- pc 406 not taken
                refine go_iconst (pc' := 410) (z := 1) W1180 d0_409 rfl rfl ?_
                refine go_goto (pc' := 414) W1180 d0_410 (by decide) rfl ?_
                refine go_istore (pc' := 416) (l' := #[.val (.long x0), .second, .val (.long x1), .second, .val (.long x2), .second, .val (.int x3), .val (.int x4), .val (.ref b926), .val (.int n), .val (.int (1 : Int32)), .val (.int m), .val (.ref b1114), .val (.ref b1145), .val (.int (1 : Int32))]) W1180 d0_414 rfl rfl ?_
                refine go_aload (pc' := 418) W1180 d0_416 rfl rfl rfl ?_
                refine go_bipush (pc' := 420) (z := 10) W1180 d0_418 (by decide) rfl ?_
                refine go_callV (a := b1114) (kc := K6) (argsL := [(.int (10 : Int32))]) (rest := []) (pc' := 423) W1180 (w78 hw) (w39 hw) (nf_sel W1180 (w41 hw)) (w41 hw) (w40 hw) (w13 hw) (w42 hw) f1168 (rm6 E.l Z a0 hw b1114 (10 : Int32) la1127 ca1127 ba1127 (own_sbN kp1131 nw1131) (own_sbK kp1131) (own_sbT kp1131 nw1131 t1131 fl1131 fc1131 fb1131) fl1131 fc1131 fb1131 h1167 n0 z1170 P1172 NE1127 B0.1 B0.2.2.2.2.2.2.1) (by decide) pd2 rfl rfl rfl (nb rfl) (nb rfl) (nb rfl) (nb rfl) d0_420 rfl ?_
                rintro _ T1182 h1182 ⟨rfl, K1182, P1182⟩ W1182
                have f1183 := f1168.keep K1182
                have f1184 := f1169.keep K1182
                have z1185 := Nat.le_trans z1170 K1182.1
                have f1186 := f1171.keep K1182 (by simp only [List.mem_cons, List.not_mem_nil, or_false, not_or]; (repeat' apply And.intro) <;> (intro q; have q1 := Nat.le_of_eq q; have q2 := Nat.le_of_eq (Eq.symm q); omega))
                have P1187 := own_Pos_keep P1167 K1182 (by simp only [List.mem_cons, List.not_mem_nil, or_false, not_or]; (repeat' apply And.intro) <;> (intro q; have q1 := Nat.le_of_eq q; have q2 := Nat.le_of_eq (Eq.symm q); omega))
                show Go E _ (Fm E T1182 423 #[.val (.long x0), .second, .val (.long x1), .second, .val (.long x2), .second, .val (.int x3), .val (.int x4), .val (.ref b926), .val (.int n), .val (.int (1 : Int32)), .val (.int m), .val (.ref b1114), .val (.ref b1145), .val (.int (1 : Int32))] [])
                refine go_aload (pc' := 425) W1182 d0_423 rfl rfl rfl ?_
                refine go_bipush (pc' := 427) (z := 10) W1182 d0_425 (by decide) rfl ?_
                refine go_callV (a := b1145) (kc := K6) (argsL := [(.int (10 : Int32))]) (rest := []) (pc' := 430) W1182 (w78 hw) (w39 hw) (nf_sel W1182 (w41 hw)) (w41 hw) (w40 hw) (w13 hw) (w42 hw) f1184 (rm6 E.l Z a0 hw b1145 (10 : Int32) la1161 ca1161 ba1161 nw1167 kp1167 t1167 fl1167 fc1167 fb1167 h1182 n0 z1185 P1187 NE1161 AI1167.1 AI1167.2.2.2.2.2.2.1) (by decide) pd2 rfl rfl rfl (nb rfl) (nb rfl) (nb rfl) (nb rfl) d0_427 rfl ?_
                rintro _ T1188 h1188 ⟨rfl, K1188, P1188⟩ W1188
                have f1189 := f1183.keep K1188
                have f1190 := f1184.keep K1188
                have z1191 := Nat.le_trans z1185 K1188.1
                have f1192 := f1186.keep K1188 (by simp only [List.mem_cons, List.not_mem_nil, or_false, not_or]; (repeat' apply And.intro) <;> (intro q; have q1 := Nat.le_of_eq q; have q2 := Nat.le_of_eq (Eq.symm q); omega))
                have P1193 := own_Pos_keep P1182 K1188 (by simp only [List.mem_cons, List.not_mem_nil, or_false, not_or]; (repeat' apply And.intro) <;> (intro q; have q1 := Nat.le_of_eq q; have q2 := Nat.le_of_eq (Eq.symm q); omega))
                show Go E _ (Fm E T1188 430 #[.val (.long x0), .second, .val (.long x1), .second, .val (.long x2), .second, .val (.int x3), .val (.int x4), .val (.ref b926), .val (.int n), .val (.int (1 : Int32)), .val (.int m), .val (.ref b1114), .val (.ref b1145), .val (.int (1 : Int32))] [])
                refine go_iload (pc' := 432) W1188 d0_430 rfl rfl ?_
                refine go_if_eq (pt := 452) (pf := 435) W1188 d0_432 (by decide) rfl rfl (fun c432_1194 => ?_) (fun c432_1194 => ?_)
                · exact absurd c432_1194 (by decide)
                · -- pc 432 not taken
                  refine go_aload (pc' := 437) W1188 d0_435 rfl rfl rfl ?_
                  refine go_callV (a := b1114) (kc := K10) (argsL := []) (rest := []) (pc' := 440) W1188 (w63 hw) (w64 hw) (nf_sel W1188 (w66 hw)) (w66 hw) (w65 hw) (w13 hw) (w67 hw) f1189 (rm10 E.l Z a0 hw b1114 la1127 ca1127 ba1127 (((own_sbN kp1131 nw1131) + 1) % 16) (own_min ((own_sbK kp1131) + 1) 16) (own_step (own_sbT kp1131 nw1131 t1131 fl1131 fc1131 fb1131) (10 : Int32)) (own_upd fl1131 (own_ix (((own_sbN kp1131 nw1131) + 1) % 16)) (own_sbT kp1131 nw1131 t1131 fl1131 fc1131 fb1131).1) (own_upd fc1131 (own_ix (((own_sbN kp1131 nw1131) + 1) % 16)) (own_sbT kp1131 nw1131 t1131 fl1131 fc1131 fb1131).2.1) (own_upd fb1131 (own_ix (((own_sbN kp1131 nw1131) + 1) % 16)) (own_sbT kp1131 nw1131 t1131 fl1131 fc1131 fb1131).2.2) h1188 n0 z1191 P1193) (by decide) pd6 rfl rfl rfl (nb rfl) (nb rfl) (nb rfl) (nb rfl) d0_437 rfl ?_
                  rintro _ T1195 h1195 ⟨rfl, q1195⟩ W1195
                  replace W1195 := W1195.sub q1195
                  show Go E _ (Fm E T1195 440 #[.val (.long x0), .second, .val (.long x1), .second, .val (.long x2), .second, .val (.int x3), .val (.int x4), .val (.ref b926), .val (.int n), .val (.int (1 : Int32)), .val (.int m), .val (.ref b1114), .val (.ref b1145), .val (.int (1 : Int32))] [(.int ((own_step (own_sbT kp1131 nw1131 t1131 fl1131 fc1131 fb1131) (10 : Int32))).1)])
                  refine go_aload (pc' := 442) W1195 d0_440 rfl rfl rfl ?_
                  refine go_callV (a := b1145) (kc := K10) (argsL := []) (rest := [(.int ((own_step (own_sbT kp1131 nw1131 t1131 fl1131 fc1131 fb1131) (10 : Int32))).1)]) (pc' := 445) W1195 (w63 hw) (w64 hw) (nf_sel W1195 (w66 hw)) (w66 hw) (w65 hw) (w13 hw) (w67 hw) f1190 (rm10 E.l Z a0 hw b1145 la1161 ca1161 ba1161 ((nw1167 + 1) % 16) (own_min (kp1167 + 1) 16) (own_step t1167 (10 : Int32)) (own_upd fl1167 (own_ix ((nw1167 + 1) % 16)) t1167.1) (own_upd fc1167 (own_ix ((nw1167 + 1) % 16)) t1167.2.1) (own_upd fb1167 (own_ix ((nw1167 + 1) % 16)) t1167.2.2) h1188 n0 z1191 P1188) (by decide) pd6 rfl rfl rfl (nb rfl) (nb rfl) (nb rfl) (nb rfl) d0_442 rfl ?_
                  rintro _ T1196 h1196 ⟨rfl, q1196⟩ W1196
                  replace W1196 := W1196.sub q1196
                  show Go E _ (Fm E T1196 445 #[.val (.long x0), .second, .val (.long x1), .second, .val (.long x2), .second, .val (.int x3), .val (.int x4), .val (.ref b926), .val (.int n), .val (.int (1 : Int32)), .val (.int m), .val (.ref b1114), .val (.ref b1145), .val (.int (1 : Int32))] [(.int ((own_step t1167 (10 : Int32))).1), (.int ((own_step (own_sbT kp1131 nw1131 t1131 fl1131 fc1131 fb1131) (10 : Int32))).1)])
                  refine go_icmp_ne (pt := 452) (pf := 448) W1196 d0_445 (by decide) rfl rfl (fun c445_1197 => ?_) (fun c445_1197 => ?_)
                  · exact absurd (congrArg (fun t : Tri => (own_step t (10 : Int32)).1) tpq) c445_1197
                  · -- pc 445 not taken
                    refine go_iconst (pc' := 449) (z := 1) W1196 d0_448 rfl rfl ?_
                    refine go_goto (pc' := 453) W1196 d0_449 (by decide) rfl ?_
                    exact go_retI W1196 (t := .boolean) rfl (by simp) rfl d0_453 (nb rfl) (nb rfl) (rfl)
        · exact absurd c343_1141 (by decide)
      · exact absurd c332_1140 (by decide)
  · rw [hk]
    show Go E _ (Fm E T1026 288 #[.val (.long x0), .second, .val (.long x1), .second, .val (.long x2), .second, .val (.int x3), .val (.int x4), .val (.ref b926), .val (.int n), .val (.int (2 : Int32)), .unset, .unset, .unset, .unset] [])
    refine go_iload (pc' := 290) W1026 d0_288 rfl rfl ?_
    refine go_iload (pc' := 292) W1026 d0_290 rfl rfl ?_
    refine go_isub (pc' := 293) W1026 d0_292 rfl ?_
    refine go_iconst (pc' := 294) (z := 0) W1026 d0_293 rfl rfl ?_
    refine go_callS (kc := K2) (argsL := [(.int (n - (2 : Int32))), (.int (0 : Int32))]) (rest := []) (pc' := 297) W1026 (w7 hw) (w8 hw) (w9 hw) (w10 hw) (rm2 E.l Z a0 hw (n - (2 : Int32)) (0 : Int32) h1026 n0 z1028) (by decide) pd0 rfl rfl rfl (nb rfl) (nb rfl) (nb rfl) (nb rfl) d0_294 rfl ?_
    rintro _ T1198 h1198 ⟨rfl, q1198⟩ W1198
    replace W1198 := W1198.sub q1198
    show Go E _ (Fm E T1198 297 #[.val (.long x0), .second, .val (.long x1), .second, .val (.long x2), .second, .val (.int x3), .val (.int x4), .val (.ref b926), .val (.int n), .val (.int (2 : Int32)), .unset, .unset, .unset, .unset] [(.int (own_max (n - (2 : Int32)) (0 : Int32)))])
    refine go_istore (pc' := 299) (l' := #[.val (.long x0), .second, .val (.long x1), .second, .val (.long x2), .second, .val (.int x3), .val (.int x4), .val (.ref b926), .val (.int n), .val (.int (2 : Int32)), .val (.int (own_max (n - (2 : Int32)) (0 : Int32))), .unset, .unset, .unset]) W1198 d0_297 rfl rfl ?_
    have hm := own_mm n (2 : Int32) nN 2 hn hn20 rfl (by decide)
    generalize (own_max (n - (2 : Int32)) (0 : Int32)) = m at hm ⊢
    show Go E _ (Fm E T1198 299 #[.val (.long x0), .second, .val (.long x1), .second, .val (.long x2), .second, .val (.int x3), .val (.int x4), .val (.ref b926), .val (.int n), .val (.int (2 : Int32)), .val (.int m), .unset, .unset, .unset] [])
    have lt1199 := Nat.lt_of_lt_of_le af1029.lt (Nat.le_refl _)
    refine go_new (pc' := 302) W1198 (w11 hw) (w12 hw) (w13 hw) d0_299 (nb rfl) (nb rfl) rfl ?_
    intro T1200 h1200 b1200 g1200 W1200 E1200 A1200 D1200 M1200
    have ne1201 : b926 ≠ b1200 := by rw [g1200]; exact Nat.ne_of_lt af1029.lt
    have ge1202 : n0 ≤ b1200 := by rw [g1200]; exact z1028
    have g1200x := Nat.le_of_eq g1200
    have g1200y := Nat.le_of_eq (Eq.symm g1200)
    have E1200x := E1200.1
    have f1203 := af1029.ext E1200
    have z1204 := Nat.le_trans z1028 E1200.1
    have f1205 : Fld Z h1200 b1200 "com/example/hornstone/hornstone/read/Position" "lines" "[I" .null := D1200 (Or.inr (w22 hw)) (ty := (.array .int)) (by decide)
    have f1206 : Fld Z h1200 b1200 "com/example/hornstone/hornstone/read/Position" "columns" "[I" .null := D1200 (Or.inr (w24 hw)) (ty := (.array .int)) (by decide)
    have f1207 : Fld Z h1200 b1200 "com/example/hornstone/hornstone/read/Position" "breaks" "[B" .null := D1200 (Or.inr (w27 hw)) (ty := (.array .byte)) (by decide)
    have f1208 : Fld Z h1200 b1200 "com/example/hornstone/hornstone/read/Position" "line" "I" (.int (0 : Int32)) := D1200 (Or.inl (w29 hw)) (ty := .int) (by decide)
    have f1209 : Fld Z h1200 b1200 "com/example/hornstone/hornstone/read/Position" "lastBreak" "B" (.int (0 : Int32)) := D1200 (Or.inl (w31 hw)) (ty := .byte) (by decide)
    have f1210 : Fld Z h1200 b1200 "com/example/hornstone/hornstone/read/Position" "newest" "I" (.int (0 : Int32)) := D1200 (Or.inl (w44 hw)) (ty := .int) (by decide)
    have f1211 : Fld Z h1200 b1200 "com/example/hornstone/hornstone/read/Position" "column" "I" (.int (0 : Int32)) := D1200 (Or.inl (w46 hw)) (ty := .int) (by decide)
    have f1212 : Fld Z h1200 b1200 "com/example/hornstone/hornstone/read/Position" "kept" "I" (.int (0 : Int32)) := D1200 (Or.inl (w48 hw)) (ty := .int) (by decide)
    refine go_dup (pc' := 303) W1200 d0_302 rfl rfl ?_
    refine go_callN (a := b1200) (kc := K3) (argsL := []) (rest := [(.ref b1200)]) (pc' := 306) W1200 (w14 hw) (w15 hw) (w13 hw) (w16 hw) (rm3 E.l Z a0 hw b1200 h1200 n0 z1204 A1200 f1205 f1206 f1207 f1210 f1212 f1208 f1211 f1209 ge1202) rfl rfl (by decide) pd4 rfl rfl rfl (nb rfl) (nb rfl) (nb rfl) (nb rfl) d0_303 rfl ?_
    rintro _ T1213 h1213 ⟨la1213, ca1213, ba1213, rfl, NE1213, s11213, s21213, s31213, K1213, P1213⟩ W1213
    have f1214 := A1200.keep K1213
    have z1215 := Nat.le_trans z1204 K1213.1
    have f1216 := f1203.keep K1213 (by simp only [List.mem_cons, List.not_mem_nil, or_false, not_or]; (repeat' apply And.intro) <;> (intro q; have q1 := Nat.le_of_eq q; have q2 := Nat.le_of_eq (Eq.symm q); omega))
    show Go E _ (Fm E T1213 306 #[.val (.long x0), .second, .val (.long x1), .second, .val (.long x2), .second, .val (.int x3), .val (.int x4), .val (.ref b926), .val (.int n), .val (.int (2 : Int32)), .val (.int m), .unset, .unset, .unset] [(.ref b1200)])
    refine go_astore (pc' := 308) (l' := #[.val (.long x0), .second, .val (.long x1), .second, .val (.long x2), .second, .val (.int x3), .val (.int x4), .val (.ref b926), .val (.int n), .val (.int (2 : Int32)), .val (.int m), .val (.ref b1200), .unset, .unset]) W1213 d0_306 rfl rfl rfl ?_
    refine go_aload (pc' := 310) W1213 d0_308 rfl rfl rfl ?_
    refine go_aload (pc' := 312) W1213 d0_310 rfl rfl rfl ?_
    refine go_iconst (pc' := 313) (z := 0) W1213 d0_312 rfl rfl ?_
    refine go_iload (pc' := 315) W1213 d0_313 rfl rfl ?_
    refine go_callV (a := b1200) (kc := K5) (argsL := [(.ref b926), (.int (0 : Int32)), (.int n)]) (rest := []) (pc' := 318) W1213 (w32 hw) (w33 hw) (nf_sel W1213 (w35 hw)) (w35 hw) (w34 hw) (w13 hw) (w36 hw) f1214 (rm5 E.l Z a0 hw b1200 b926 n la1213 ca1213 ba1213 fc1029 nN h1213 n0 z1215 P1213 NE1213 f1216 hc1029 (by simp only [List.mem_cons, List.not_mem_nil, or_false, not_or]; (repeat' apply And.intro) <;> (intro q; have q1 := Nat.le_of_eq q; have q2 := Nat.le_of_eq (Eq.symm q); omega)) hn hn20) (by decide) pd5 rfl rfl rfl (nb rfl) (nb rfl) (nb rfl) (nb rfl) d0_315 rfl ?_
    rintro _ T1217 h1217 ⟨rfl, K1217, nw1217, kp1217, t1217, fl1217, fc1217, fb1217, P1217, AI1217⟩ W1217
    have f1218 := f1214.keep K1217
    have z1219 := Nat.le_trans z1215 K1217.1
    have f1220 := f1216.keep K1217 (by simp only [List.mem_cons, List.not_mem_nil, or_false, not_or]; (repeat' apply And.intro) <;> (intro q; have q1 := Nat.le_of_eq q; have q2 := Nat.le_of_eq (Eq.symm q); omega))
    show Go E _ (Fm E T1217 318 #[.val (.long x0), .second, .val (.long x1), .second, .val (.long x2), .second, .val (.int x3), .val (.int x4), .val (.ref b926), .val (.int n), .val (.int (2 : Int32)), .val (.int m), .val (.ref b1200), .unset, .unset] [])
    refine go_iload (pc' := 320) W1217 d0_318 rfl rfl ?_
    refine go_iconst (pc' := 321) (z := 1) W1217 d0_320 rfl rfl ?_
    refine go_icmp_lt (pt := 329) (pf := 324) W1217 d0_321 (by decide) rfl rfl (fun c321_1221 => ?_) (fun c321_1221 => ?_)
    · exact absurd c321_1221 (by decide)
    · -- pc 321 not taken
      refine go_aload (pc' := 326) W1217 d0_324 rfl rfl rfl ?_
      refine go_callV (a := b1200) (kc := K9) (argsL := []) (rest := []) (pc' := 329) W1217 (w58 hw) (w59 hw) (nf_sel W1217 (w61 hw)) (w61 hw) (w60 hw) (w13 hw) (w62 hw) f1218 (rm9 E.l Z a0 hw b1200 la1213 ca1213 ba1213 nw1217 kp1217 t1217 fl1217 fc1217 fb1217 h1217 n0 z1219 P1217 NE1213 (own_BI_of AI1217).1 (own_BI_of AI1217).2.2.2.2.2.2.2) (by decide) pd4 rfl rfl rfl (nb rfl) (nb rfl) (nb rfl) (nb rfl) d0_326 rfl ?_
      rintro _ T1222 h1222 ⟨rfl, K1222, P1222⟩ W1222
      have B1222 := own_BI_step (own_BI_of AI1217) (by decide) (fun q => by omega)
      have f1223 := f1218.keep K1222
      have z1224 := Nat.le_trans z1219 K1222.1
      have f1225 := f1220.keep K1222 (by simp only [List.mem_cons, List.not_mem_nil, or_false, not_or]; (repeat' apply And.intro) <;> (intro q; have q1 := Nat.le_of_eq q; have q2 := Nat.le_of_eq (Eq.symm q); omega))
      show Go E _ (Fm E T1222 329 #[.val (.long x0), .second, .val (.long x1), .second, .val (.long x2), .second, .val (.int x3), .val (.int x4), .val (.ref b926), .val (.int n), .val (.int (2 : Int32)), .val (.int m), .val (.ref b1200), .unset, .unset] [])
      refine go_iload (pc' := 331) W1222 d0_329 rfl rfl ?_
      refine go_iconst (pc' := 332) (z := 2) W1222 d0_331 rfl rfl ?_
      refine go_icmp_lt (pt := 340) (pf := 335) W1222 d0_332 (by decide) rfl rfl (fun c332_1226 => ?_) (fun c332_1226 => ?_)
      · exact absurd c332_1226 (by decide)
      · -- pc 332 not taken
        refine go_aload (pc' := 337) W1222 d0_335 rfl rfl rfl ?_
        refine go_callV (a := b1200) (kc := K9) (argsL := []) (rest := []) (pc' := 340) W1222 (w58 hw) (w59 hw) (nf_sel W1222 (w61 hw)) (w61 hw) (w60 hw) (w13 hw) (w62 hw) f1223 (rm9 E.l Z a0 hw b1200 la1213 ca1213 ba1213 (own_sbN kp1217 nw1217) (own_sbK kp1217) (own_sbT kp1217 nw1217 t1217 fl1217 fc1217 fb1217) fl1217 fc1217 fb1217 h1222 n0 z1224 P1222 NE1213 B1222.1 B1222.2.2.2.2.2.2.2) (by decide) pd4 rfl rfl rfl (nb rfl) (nb rfl) (nb rfl) (nb rfl) d0_337 rfl ?_
        rintro _ T1227 h1227 ⟨rfl, K1227, P1227⟩ W1227
        have B1227 := own_BI_step B1222 (by decide) (fun q => by omega)
        have f1228 := f1223.keep K1227
        have z1229 := Nat.le_trans z1224 K1227.1
        have f1230 := f1225.keep K1227 (by simp only [List.mem_cons, List.not_mem_nil, or_false, not_or]; (repeat' apply And.intro) <;> (intro q; have q1 := Nat.le_of_eq q; have q2 := Nat.le_of_eq (Eq.symm q); omega))
        show Go E _ (Fm E T1227 340 #[.val (.long x0), .second, .val (.long x1), .second, .val (.long x2), .second, .val (.int x3), .val (.int x4), .val (.ref b926), .val (.int n), .val (.int (2 : Int32)), .val (.int m), .val (.ref b1200), .unset, .unset] [])
        refine go_iload (pc' := 342) W1227 d0_340 rfl rfl ?_
        refine go_iconst (pc' := 343) (z := 3) W1227 d0_342 rfl rfl ?_
        refine go_icmp_lt (pt := 351) (pf := 346) W1227 d0_343 (by decide) rfl rfl (fun c343_1231 => ?_) (fun c343_1231 => ?_)
        · -- pc 343 taken
          have lt1233 := Nat.lt_of_lt_of_le f1230.lt (Nat.le_refl _)
          obtain ⟨lt1234, lu1234, lv1234, lw1234⟩ := own_Pos_lt P1227
          have lt1234n := Nat.lt_of_lt_of_le lt1234 (Nat.le_refl _)
          have lu1234n := Nat.lt_of_lt_of_le lu1234 (Nat.le_refl _)
          have lv1234n := Nat.lt_of_lt_of_le lv1234 (Nat.le_refl _)
          have lw1234n := Nat.lt_of_lt_of_le lw1234 (Nat.le_refl _)
          refine go_new (pc' := 354) W1227 (w11 hw) (w12 hw) (w13 hw) d0_351 (nb rfl) (nb rfl) rfl ?_
          intro T1235 h1235 b1235 g1235 W1235 E1235 A1235 D1235 M1235
          have ne1236 : b1200 ≠ b1235 := by rw [g1235]; exact Nat.ne_of_lt f1228.lt
          have ne1237 : b926 ≠ b1235 := by rw [g1235]; exact Nat.ne_of_lt f1230.lt
          have ge1238 : n0 ≤ b1235 := by rw [g1235]; exact z1229
          have g1235x := Nat.le_of_eq g1235
          have g1235y := Nat.le_of_eq (Eq.symm g1235)
          have E1235x := E1235.1
          have f1239 := f1228.ext E1235
          have f1240 := f1230.ext E1235
          have z1241 := Nat.le_trans z1229 E1235.1
          have P1242 := own_Pos_ext P1227 E1235
          have f1243 : Fld Z h1235 b1235 "com/example/hornstone/hornstone/read/Position" "lines" "[I" .null := D1235 (Or.inr (w22 hw)) (ty := (.array .int)) (by decide)
          have f1244 : Fld Z h1235 b1235 "com/example/hornstone/hornstone/read/Position" "columns" "[I" .null := D1235 (Or.inr (w24 hw)) (ty := (.array .int)) (by decide)
          have f1245 : Fld Z h1235 b1235 "com/example/hornstone/hornstone/read/Position" "breaks" "[B" .null := D1235 (Or.inr (w27 hw)) (ty := (.array .byte)) (by decide)
          have f1246 : Fld Z h1235 b1235 "com/example/hornstone/hornstone/read/Position" "line" "I" (.int (0 : Int32)) := D1235 (Or.inl (w29 hw)) (ty := .int) (by decide)
          have f1247 : Fld Z h1235 b1235 "com/example/hornstone/hornstone/read/Position" "lastBreak" "B" (.int (0 : Int32)) := D1235 (Or.inl (w31 hw)) (ty := .byte) (by decide)
          have f1248 : Fld Z h1235 b1235 "com/example/hornstone/hornstone/read/Position" "newest" "I" (.int (0 : Int32)) := D1235 (Or.inl (w44 hw)) (ty := .int) (by decide)
          have f1249 : Fld Z h1235 b1235 "com/example/hornstone/hornstone/read/Position" "column" "I" (.int (0 : Int32)) := D1235 (Or.inl (w46 hw)) (ty := .int) (by decide)
          have f1250 : Fld Z h1235 b1235 "com/example/hornstone/hornstone/read/Position" "kept" "I" (.int (0 : Int32)) := D1235 (Or.inl (w48 hw)) (ty := .int) (by decide)
          refine go_dup (pc' := 355) W1235 d0_354 rfl rfl ?_
          refine go_callN (a := b1235) (kc := K3) (argsL := []) (rest := [(.ref b1235)]) (pc' := 358) W1235 (w14 hw) (w15 hw) (w13 hw) (w16 hw) (rm3 E.l Z a0 hw b1235 h1235 n0 z1241 A1235 f1243 f1244 f1245 f1248 f1250 f1246 f1249 f1247 ge1238) rfl rfl (by decide) pd4 rfl rfl rfl (nb rfl) (nb rfl) (nb rfl) (nb rfl) d0_355 rfl ?_
          rintro _ T1251 h1251 ⟨la1251, ca1251, ba1251, rfl, NE1251, s11251, s21251, s31251, K1251, P1251⟩ W1251
          have f1252 := f1239.keep K1251
          have f1253 := A1235.keep K1251
          have z1254 := Nat.le_trans z1241 K1251.1
          have f1255 := f1240.keep K1251 (by simp only [List.mem_cons, List.not_mem_nil, or_false, not_or]; (repeat' apply And.intro) <;> (intro q; have q1 := Nat.le_of_eq q; have q2 := Nat.le_of_eq (Eq.symm q); omega))
          have P1256 := own_Pos_keep P1242 K1251 (by simp only [List.mem_cons, List.not_mem_nil, or_false, not_or]; (repeat' apply And.intro) <;> (intro q; have q1 := Nat.le_of_eq q; have q2 := Nat.le_of_eq (Eq.symm q); omega))
          show Go E _ (Fm E T1251 358 #[.val (.long x0), .second, .val (.long x1), .second, .val (.long x2), .second, .val (.int x3), .val (.int x4), .val (.ref b926), .val (.int n), .val (.int (2 : Int32)), .val (.int m), .val (.ref b1200), .unset, .unset] [(.ref b1235)])
          refine go_astore (pc' := 360) (l' := #[.val (.long x0), .second, .val (.long x1), .second, .val (.long x2), .second, .val (.int x3), .val (.int x4), .val (.ref b926), .val (.int n), .val (.int (2 : Int32)), .val (.int m), .val (.ref b1200), .val (.ref b1235), .unset]) W1251 d0_358 rfl rfl rfl ?_
          refine go_aload (pc' := 362) W1251 d0_360 rfl rfl rfl ?_
          refine go_aload (pc' := 364) W1251 d0_362 rfl rfl rfl ?_
          refine go_iconst (pc' := 365) (z := 0) W1251 d0_364 rfl rfl ?_
          refine go_iload (pc' := 367) W1251 d0_365 rfl rfl ?_
          refine go_callV (a := b1235) (kc := K5) (argsL := [(.ref b926), (.int (0 : Int32)), (.int m)]) (rest := []) (pc' := 370) W1251 (w32 hw) (w33 hw) (nf_sel W1251 (w35 hw)) (w35 hw) (w34 hw) (w13 hw) (w36 hw) f1253 (rm5 E.l Z a0 hw b1235 b926 m la1251 ca1251 ba1251 fc1029 (nN - 2) h1251 n0 z1254 P1251 NE1251 f1255 hc1029 (by simp only [List.mem_cons, List.not_mem_nil, or_false, not_or]; (repeat' apply And.intro) <;> (intro q; have q1 := Nat.le_of_eq q; have q2 := Nat.le_of_eq (Eq.symm q); omega)) hm (by omega)) (by decide) pd5 rfl rfl rfl (nb rfl) (nb rfl) (nb rfl) (nb rfl) d0_367 rfl ?_
          rintro _ T1257 h1257 ⟨rfl, K1257, nw1257, kp1257, t1257, fl1257, fc1257, fb1257, P1257, AI1257⟩ W1257
          have f1258 := f1252.keep K1257
          have f1259 := f1253.keep K1257
          have z1260 := Nat.le_trans z1254 K1257.1
          have f1261 := f1255.keep K1257 (by simp only [List.mem_cons, List.not_mem_nil, or_false, not_or]; (repeat' apply And.intro) <;> (intro q; have q1 := Nat.le_of_eq q; have q2 := Nat.le_of_eq (Eq.symm q); omega))
          have P1262 := own_Pos_keep P1256 K1257 (by simp only [List.mem_cons, List.not_mem_nil, or_false, not_or]; (repeat' apply And.intro) <;> (intro q; have q1 := Nat.le_of_eq q; have q2 := Nat.le_of_eq (Eq.symm q); omega))
          show Go E _ (Fm E T1257 370 #[.val (.long x0), .second, .val (.long x1), .second, .val (.long x2), .second, .val (.int x3), .val (.int x4), .val (.ref b926), .val (.int n), .val (.int (2 : Int32)), .val (.int m), .val (.ref b1200), .val (.ref b1235), .unset] [])
          have B0 := B1227
          have tp : (own_sbT (own_sbK kp1217) (own_sbN kp1217 nw1217) (own_sbT kp1217 nw1217 t1217 fl1217 fc1217 fb1217) fl1217 fc1217 fb1217) = own_st fc1029 (nN - 2) := B0.2.2.1
          have tq : t1257 = own_st fc1029 (nN - 2) := AI1257.2.2.1
          have tpq : (own_sbT (own_sbK kp1217) (own_sbN kp1217 nw1217) (own_sbT kp1217 nw1217 t1217 fl1217 fc1217 fb1217) fl1217 fc1217 fb1217) = t1257 := tp.trans tq.symm
          refine go_aload (pc' := 372) W1257 d0_370 rfl rfl rfl ?_
          refine go_callV (a := b1200) (kc := K10) (argsL := []) (rest := []) (pc' := 375) W1257 (w63 hw) (w64 hw) (nf_sel W1257 (w66 hw)) (w66 hw) (w65 hw) (w13 hw) (w67 hw) f1258 (rm10 E.l Z a0 hw b1200 la1213 ca1213 ba1213 (own_sbN (own_sbK kp1217) (own_sbN kp1217 nw1217)) (own_sbK (own_sbK kp1217)) (own_sbT (own_sbK kp1217) (own_sbN kp1217 nw1217) (own_sbT kp1217 nw1217 t1217 fl1217 fc1217 fb1217) fl1217 fc1217 fb1217) fl1217 fc1217 fb1217 h1257 n0 z1260 P1262) (by decide) pd6 rfl rfl rfl (nb rfl) (nb rfl) (nb rfl) (nb rfl) d0_372 rfl ?_
          rintro _ T1263 h1263 ⟨rfl, q1263⟩ W1263
          replace W1263 := W1263.sub q1263
          show Go E _ (Fm E T1263 375 #[.val (.long x0), .second, .val (.long x1), .second, .val (.long x2), .second, .val (.int x3), .val (.int x4), .val (.ref b926), .val (.int n), .val (.int (2 : Int32)), .val (.int m), .val (.ref b1200), .val (.ref b1235), .unset] [(.int ((own_sbT (own_sbK kp1217) (own_sbN kp1217 nw1217) (own_sbT kp1217 nw1217 t1217 fl1217 fc1217 fb1217) fl1217 fc1217 fb1217)).1)])
          refine go_aload (pc' := 377) W1263 d0_375 rfl rfl rfl ?_
          refine go_callV (a := b1235) (kc := K10) (argsL := []) (rest := [(.int ((own_sbT (own_sbK kp1217) (own_sbN kp1217 nw1217) (own_sbT kp1217 nw1217 t1217 fl1217 fc1217 fb1217) fl1217 fc1217 fb1217)).1)]) (pc' := 380) W1263 (w63 hw) (w64 hw) (nf_sel W1263 (w66 hw)) (w66 hw) (w65 hw) (w13 hw) (w67 hw) f1259 (rm10 E.l Z a0 hw b1235 la1251 ca1251 ba1251 nw1257 kp1257 t1257 fl1257 fc1257 fb1257 h1257 n0 z1260 P1257) (by decide) pd6 rfl rfl rfl (nb rfl) (nb rfl) (nb rfl) (nb rfl) d0_377 rfl ?_
          rintro _ T1264 h1264 ⟨rfl, q1264⟩ W1264
          replace W1264 := W1264.sub q1264
          show Go E _ (Fm E T1264 380 #[.val (.long x0), .second, .val (.long x1), .second, .val (.long x2), .second, .val (.int x3), .val (.int x4), .val (.ref b926), .val (.int n), .val (.int (2 : Int32)), .val (.int m), .val (.ref b1200), .val (.ref b1235), .unset] [(.int (t1257).1), (.int ((own_sbT (own_sbK kp1217) (own_sbN kp1217 nw1217) (own_sbT kp1217 nw1217 t1217 fl1217 fc1217 fb1217) fl1217 fc1217 fb1217)).1)])
          refine go_icmp_ne (pt := 413) (pf := 383) W1264 d0_380 (by decide) rfl rfl (fun c380_1265 => ?_) (fun c380_1265 => ?_)
          · exact absurd (congrArg (fun t : Tri => t.1) tpq) c380_1265
          · -- pc 380 not taken
            refine go_aload (pc' := 385) W1264 d0_383 rfl rfl rfl ?_
            refine go_callV (a := b1200) (kc := K11) (argsL := []) (rest := []) (pc' := 388) W1264 (w68 hw) (w69 hw) (nf_sel W1264 (w71 hw)) (w71 hw) (w70 hw) (w13 hw) (w72 hw) f1258 (rm11 E.l Z a0 hw b1200 la1213 ca1213 ba1213 (own_sbN (own_sbK kp1217) (own_sbN kp1217 nw1217)) (own_sbK (own_sbK kp1217)) (own_sbT (own_sbK kp1217) (own_sbN kp1217 nw1217) (own_sbT kp1217 nw1217 t1217 fl1217 fc1217 fb1217) fl1217 fc1217 fb1217) fl1217 fc1217 fb1217 h1257 n0 z1260 P1262) (by decide) pd6 rfl rfl rfl (nb rfl) (nb rfl) (nb rfl) (nb rfl) d0_385 rfl ?_
            rintro _ T1266 h1266 ⟨rfl, q1266⟩ W1266
            replace W1266 := W1266.sub q1266
            show Go E _ (Fm E T1266 388 #[.val (.long x0), .second, .val (.long x1), .second, .val (.long x2), .second, .val (.int x3), .val (.int x4), .val (.ref b926), .val (.int n), .val (.int (2 : Int32)), .val (.int m), .val (.ref b1200), .val (.ref b1235), .unset] [(.int ((own_sbT (own_sbK kp1217) (own_sbN kp1217 nw1217) (own_sbT kp1217 nw1217 t1217 fl1217 fc1217 fb1217) fl1217 fc1217 fb1217)).2.1)])
            refine go_aload (pc' := 390) W1266 d0_388 rfl rfl rfl ?_
            refine go_callV (a := b1235) (kc := K11) (argsL := []) (rest := [(.int ((own_sbT (own_sbK kp1217) (own_sbN kp1217 nw1217) (own_sbT kp1217 nw1217 t1217 fl1217 fc1217 fb1217) fl1217 fc1217 fb1217)).2.1)]) (pc' := 393) W1266 (w68 hw) (w69 hw) (nf_sel W1266 (w71 hw)) (w71 hw) (w70 hw) (w13 hw) (w72 hw) f1259 (rm11 E.l Z a0 hw b1235 la1251 ca1251 ba1251 nw1257 kp1257 t1257 fl1257 fc1257 fb1257 h1257 n0 z1260 P1257) (by decide) pd6 rfl rfl rfl (nb rfl) (nb rfl) (nb rfl) (nb rfl) d0_390 rfl ?_
            rintro _ T1267 h1267 ⟨rfl, q1267⟩ W1267
            replace W1267 := W1267.sub q1267
            show Go E _ (Fm E T1267 393 #[.val (.long x0), .second, .val (.long x1), .second, .val (.long x2), .second, .val (.int x3), .val (.int x4), .val (.ref b926), .val (.int n), .val (.int (2 : Int32)), .val (.int m), .val (.ref b1200), .val (.ref b1235), .unset] [(.int (t1257).2.1), (.int ((own_sbT (own_sbK kp1217) (own_sbN kp1217 nw1217) (own_sbT kp1217 nw1217 t1217 fl1217 fc1217 fb1217) fl1217 fc1217 fb1217)).2.1)])
            refine go_icmp_ne (pt := 413) (pf := 396) W1267 d0_393 (by decide) rfl rfl (fun c393_1268 => ?_) (fun c393_1268 => ?_)
            · exact absurd (congrArg (fun t : Tri => t.2.1) tpq) c393_1268
            · -- pc 393 not taken
              refine go_aload (pc' := 398) W1267 d0_396 rfl rfl rfl ?_
              refine go_callV (a := b1200) (kc := K12) (argsL := []) (rest := []) (pc' := 401) W1267 (w73 hw) (w74 hw) (nf_sel W1267 (w76 hw)) (w76 hw) (w75 hw) (w13 hw) (w77 hw) f1258 (rm12 E.l Z a0 hw b1200 la1213 ca1213 ba1213 (own_sbN (own_sbK kp1217) (own_sbN kp1217 nw1217)) (own_sbK (own_sbK kp1217)) (own_sbT (own_sbK kp1217) (own_sbN kp1217 nw1217) (own_sbT kp1217 nw1217 t1217 fl1217 fc1217 fb1217) fl1217 fc1217 fb1217) fl1217 fc1217 fb1217 h1257 n0 z1260 P1262) (by decide) pd6 rfl rfl rfl (nb rfl) (nb rfl) (nb rfl) (nb rfl) d0_398 rfl ?_
              rintro _ T1269 h1269 ⟨rfl, q1269⟩ W1269
              replace W1269 := W1269.sub q1269
              show Go E _ (Fm E T1269 401 #[.val (.long x0), .second, .val (.long x1), .second, .val (.long x2), .second, .val (.int x3), .val (.int x4), .val (.ref b926), .val (.int n), .val (.int (2 : Int32)), .val (.int m), .val (.ref b1200), .val (.ref b1235), .unset] [(.int (own_nl (own_sbT (own_sbK kp1217) (own_sbN kp1217 nw1217) (own_sbT kp1217 nw1217 t1217 fl1217 fc1217 fb1217) fl1217 fc1217 fb1217)))])
              refine go_aload (pc' := 403) W1269 d0_401 rfl rfl rfl ?_
              refine go_callV (a := b1235) (kc := K12) (argsL := []) (rest := [(.int (own_nl (own_sbT (own_sbK kp1217) (own_sbN kp1217 nw1217) (own_sbT kp1217 nw1217 t1217 fl1217 fc1217 fb1217) fl1217 fc1217 fb1217)))]) (pc' := 406) W1269 (w73 hw) (w74 hw) (nf_sel W1269 (w76 hw)) (w76 hw) (w75 hw) (w13 hw) (w77 hw) f1259 (rm12 E.l Z a0 hw b1235 la1251 ca1251 ba1251 nw1257 kp1257 t1257 fl1257 fc1257 fb1257 h1257 n0 z1260 P1257) (by decide) pd6 rfl rfl rfl (nb rfl) (nb rfl) (nb rfl) (nb rfl) d0_403 rfl ?_
              rintro _ T1270 h1270 ⟨rfl, q1270⟩ W1270
              replace W1270 := W1270.sub q1270
              show Go E _ (Fm E T1270 406 #[.val (.long x0), .second, .val (.long x1), .second, .val (.long x2), .second, .val (.int x3), .val (.int x4), .val (.ref b926), .val (.int n), .val (.int (2 : Int32)), .val (.int m), .val (.ref b1200), .val (.ref b1235), .unset] [(.int (own_nl t1257)), (.int (own_nl (own_sbT (own_sbK kp1217) (own_sbN kp1217 nw1217) (own_sbT kp1217 nw1217 t1217 fl1217 fc1217 fb1217) fl1217 fc1217 fb1217)))])
              refine go_icmp_ne (pt := 413) (pf := 409) W1270 d0_406 (by decide) rfl rfl (fun c406_1271 => ?_) (fun c406_1271 => ?_)
              · exact absurd (congrArg own_nl tpq) c406_1271
              · -- pc 406 not taken
                refine go_iconst (pc' := 410) (z := 1) W1270 d0_409 rfl rfl ?_
                refine go_goto (pc' := 414) W1270 d0_410 (by decide) rfl ?_
                refine go_istore (pc' := 416) (l' := #[.val (.long x0), .second, .val (.long x1), .second, .val (.long x2), .second, .val (.int x3), .val (.int x4), .val (.ref b926), .val (.int n), .val (.int (2 : Int32)), .val (.int m), .val (.ref b1200), .val (.ref b1235), .val (.int (1 : Int32))]) W1270 d0_414 rfl rfl ?_
                refine go_aload (pc' := 418) W1270 d0_416 rfl rfl rfl ?_
                refine go_bipush (pc' := 420) (z := 10) W1270 d0_418 (by decide) rfl ?_
                refine go_callV (a := b1200) (kc := K6) (argsL := [(.int (10 : Int32))]) (rest := []) (pc' := 423) W1270 (w78 hw) (w39 hw) (nf_sel W1270 (w41 hw)) (w41 hw) (w40 hw) (w13 hw) (w42 hw) f1258 (rm6 E.l Z a0 hw b1200 (10 : Int32) la1213 ca1213 ba1213 (own_sbN (own_sbK kp1217) (own_sbN kp1217 nw1217)) (own_sbK (own_sbK kp1217)) (own_sbT (own_sbK kp1217) (own_sbN kp1217 nw1217) (own_sbT kp1217 nw1217 t1217 fl1217 fc1217 fb1217) fl1217 fc1217 fb1217) fl1217 fc1217 fb1217 h1257 n0 z1260 P1262 NE1213 B0.1 B0.2.2.2.2.2.2.1) (by decide) pd2 rfl rfl rfl (nb rfl) (nb rfl) (nb rfl) (nb rfl) d0_420 rfl ?_
                rintro _ T1272 h1272 ⟨rfl, K1272, P1272⟩ W1272
                have f1273 := f1258.keep K1272
                have f1274 := f1259.keep K1272
                have z1275 := Nat.le_trans z1260 K1272.1
                have f1276 := f1261.keep K1272 (by simp only [List.mem_cons, List.not_mem_nil, or_false, not_or]; (repeat' apply And.intro) <;> (intro q; have q1 := Nat.le_of_eq q; have q2 := Nat.le_of_eq (Eq.symm q); omega))
                have P1277 := own_Pos_keep P1257 K1272 (by simp only [List.mem_cons, List.not_mem_nil, or_false, not_or]; (repeat' apply And.intro) <;> (intro q; have q1 := Nat.le_of_eq q; have q2 := Nat.le_of_eq (Eq.symm q); omega))
                show Go E _ (Fm E T1272 423 #[.val (.long x0), .second, .val (.long x1), .second, .val (.long x2), .second, .val (.int x3), .val (.int x4), .val (.ref b926), .val (.int n), .val (.int (2 : Int32)), .val (.int m), .val (.ref b1200), .val (.ref b1235), .val (.int (1 : Int32))] [])
                refine go_aload (pc' := 425) W1272 d0_423 rfl rfl rfl ?_
                refine go_bipush (pc' := 427) (z := 10) W1272 d0_425 (by decide) rfl ?_
                refine go_callV (a := b1235) (kc := K6) (argsL := [(.int (10 : Int32))]) (rest := []) (pc' := 430) W1272 (w78 hw) (w39 hw) (nf_sel W1272 (w41 hw)) (w41 hw) (w40 hw) (w13 hw) (w42 hw) f1274 (rm6 E.l Z a0 hw b1235 (10 : Int32) la1251 ca1251 ba1251 nw1257 kp1257 t1257 fl1257 fc1257 fb1257 h1272 n0 z1275 P1277 NE1251 AI1257.1 AI1257.2.2.2.2.2.2.1) (by decide) pd2 rfl rfl rfl (nb rfl) (nb rfl) (nb rfl) (nb rfl) d0_427 rfl ?_
                rintro _ T1278 h1278 ⟨rfl, K1278, P1278⟩ W1278
                have f1279 := f1273.keep K1278
                have f1280 := f1274.keep K1278
                have z1281 := Nat.le_trans z1275 K1278.1
                have f1282 := f1276.keep K1278 (by simp only [List.mem_cons, List.not_mem_nil, or_false, not_or]; (repeat' apply And.intro) <;> (intro q; have q1 := Nat.le_of_eq q; have q2 := Nat.le_of_eq (Eq.symm q); omega))
                have P1283 := own_Pos_keep P1272 K1278 (by simp only [List.mem_cons, List.not_mem_nil, or_false, not_or]; (repeat' apply And.intro) <;> (intro q; have q1 := Nat.le_of_eq q; have q2 := Nat.le_of_eq (Eq.symm q); omega))
                show Go E _ (Fm E T1278 430 #[.val (.long x0), .second, .val (.long x1), .second, .val (.long x2), .second, .val (.int x3), .val (.int x4), .val (.ref b926), .val (.int n), .val (.int (2 : Int32)), .val (.int m), .val (.ref b1200), .val (.ref b1235), .val (.int (1 : Int32))] [])
                refine go_iload (pc' := 432) W1278 d0_430 rfl rfl ?_
                refine go_if_eq (pt := 452) (pf := 435) W1278 d0_432 (by decide) rfl rfl (fun c432_1284 => ?_) (fun c432_1284 => ?_)
                · exact absurd c432_1284 (by decide)
                · -- pc 432 not taken
                  refine go_aload (pc' := 437) W1278 d0_435 rfl rfl rfl ?_
                  refine go_callV (a := b1200) (kc := K10) (argsL := []) (rest := []) (pc' := 440) W1278 (w63 hw) (w64 hw) (nf_sel W1278 (w66 hw)) (w66 hw) (w65 hw) (w13 hw) (w67 hw) f1279 (rm10 E.l Z a0 hw b1200 la1213 ca1213 ba1213 (((own_sbN (own_sbK kp1217) (own_sbN kp1217 nw1217)) + 1) % 16) (own_min ((own_sbK (own_sbK kp1217)) + 1) 16) (own_step (own_sbT (own_sbK kp1217) (own_sbN kp1217 nw1217) (own_sbT kp1217 nw1217 t1217 fl1217 fc1217 fb1217) fl1217 fc1217 fb1217) (10 : Int32)) (own_upd fl1217 (own_ix (((own_sbN (own_sbK kp1217) (own_sbN kp1217 nw1217)) + 1) % 16)) (own_sbT (own_sbK kp1217) (own_sbN kp1217 nw1217) (own_sbT kp1217 nw1217 t1217 fl1217 fc1217 fb1217) fl1217 fc1217 fb1217).1) (own_upd fc1217 (own_ix (((own_sbN (own_sbK kp1217) (own_sbN kp1217 nw1217)) + 1) % 16)) (own_sbT (own_sbK kp1217) (own_sbN kp1217 nw1217) (own_sbT kp1217 nw1217 t1217 fl1217 fc1217 fb1217) fl1217 fc1217 fb1217).2.1) (own_upd fb1217 (own_ix (((own_sbN (own_sbK kp1217) (own_sbN kp1217 nw1217)) + 1) % 16)) (own_sbT (own_sbK kp1217) (own_sbN kp1217 nw1217) (own_sbT kp1217 nw1217 t1217 fl1217 fc1217 fb1217) fl1217 fc1217 fb1217).2.2) h1278 n0 z1281 P1283) (by decide) pd6 rfl rfl rfl (nb rfl) (nb rfl) (nb rfl) (nb rfl) d0_437 rfl ?_
                  rintro _ T1285 h1285 ⟨rfl, q1285⟩ W1285
                  replace W1285 := W1285.sub q1285
                  show Go E _ (Fm E T1285 440 #[.val (.long x0), .second, .val (.long x1), .second, .val (.long x2), .second, .val (.int x3), .val (.int x4), .val (.ref b926), .val (.int n), .val (.int (2 : Int32)), .val (.int m), .val (.ref b1200), .val (.ref b1235), .val (.int (1 : Int32))] [(.int ((own_step (own_sbT (own_sbK kp1217) (own_sbN kp1217 nw1217) (own_sbT kp1217 nw1217 t1217 fl1217 fc1217 fb1217) fl1217 fc1217 fb1217) (10 : Int32))).1)])
                  refine go_aload (pc' := 442) W1285 d0_440 rfl rfl rfl ?_
                  refine go_callV (a := b1235) (kc := K10) (argsL := []) (rest := [(.int ((own_step (own_sbT (own_sbK kp1217) (own_sbN kp1217 nw1217) (own_sbT kp1217 nw1217 t1217 fl1217 fc1217 fb1217) fl1217 fc1217 fb1217) (10 : Int32))).1)]) (pc' := 445) W1285 (w63 hw) (w64 hw) (nf_sel W1285 (w66 hw)) (w66 hw) (w65 hw) (w13 hw) (w67 hw) f1280 (rm10 E.l Z a0 hw b1235 la1251 ca1251 ba1251 ((nw1257 + 1) % 16) (own_min (kp1257 + 1) 16) (own_step t1257 (10 : Int32)) (own_upd fl1257 (own_ix ((nw1257 + 1) % 16)) t1257.1) (own_upd fc1257 (own_ix ((nw1257 + 1) % 16)) t1257.2.1) (own_upd fb1257 (own_ix ((nw1257 + 1) % 16)) t1257.2.2) h1278 n0 z1281 P1278) (by decide) pd6 rfl rfl rfl (nb rfl) (nb rfl) (nb rfl) (nb rfl) d0_442 rfl ?_
                  rintro _ T1286 h1286 ⟨rfl, q1286⟩ W1286
                  replace W1286 := W1286.sub q1286
                  show Go E _ (Fm E T1286 445 #[.val (.long x0), .second, .val (.long x1), .second, .val (.long x2), .second, .val (.int x3), .val (.int x4), .val (.ref b926), .val (.int n), .val (.int (2 : Int32)), .val (.int m), .val (.ref b1200), .val (.ref b1235), .val (.int (1 : Int32))] [(.int ((own_step t1257 (10 : Int32))).1), (.int ((own_step (own_sbT (own_sbK kp1217) (own_sbN kp1217 nw1217) (own_sbT kp1217 nw1217 t1217 fl1217 fc1217 fb1217) fl1217 fc1217 fb1217) (10 : Int32))).1)])
                  refine go_icmp_ne (pt := 452) (pf := 448) W1286 d0_445 (by decide) rfl rfl (fun c445_1287 => ?_) (fun c445_1287 => ?_)
                  · exact absurd (congrArg (fun t : Tri => (own_step t (10 : Int32)).1) tpq) c445_1287
                  · -- pc 445 not taken
                    refine go_iconst (pc' := 449) (z := 1) W1286 d0_448 rfl rfl ?_
                    refine go_goto (pc' := 453) W1286 d0_449 (by decide) rfl ?_
                    exact go_retI W1286 (t := .boolean) rfl (by simp) rfl d0_453 (nb rfl) (nb rfl) (rfl)
        · exact absurd c343_1231 (by decide)
  · rw [hk]
    show Go E _ (Fm E T1026 288 #[.val (.long x0), .second, .val (.long x1), .second, .val (.long x2), .second, .val (.int x3), .val (.int x4), .val (.ref b926), .val (.int n), .val (.int (3 : Int32)), .unset, .unset, .unset, .unset] [])
    refine go_iload (pc' := 290) W1026 d0_288 rfl rfl ?_
    refine go_iload (pc' := 292) W1026 d0_290 rfl rfl ?_
    refine go_isub (pc' := 293) W1026 d0_292 rfl ?_
    refine go_iconst (pc' := 294) (z := 0) W1026 d0_293 rfl rfl ?_
    refine go_callS (kc := K2) (argsL := [(.int (n - (3 : Int32))), (.int (0 : Int32))]) (rest := []) (pc' := 297) W1026 (w7 hw) (w8 hw) (w9 hw) (w10 hw) (rm2 E.l Z a0 hw (n - (3 : Int32)) (0 : Int32) h1026 n0 z1028) (by decide) pd0 rfl rfl rfl (nb rfl) (nb rfl) (nb rfl) (nb rfl) d0_294 rfl ?_
    rintro _ T1288 h1288 ⟨rfl, q1288⟩ W1288
    replace W1288 := W1288.sub q1288
    show Go E _ (Fm E T1288 297 #[.val (.long x0), .second, .val (.long x1), .second, .val (.long x2), .second, .val (.int x3), .val (.int x4), .val (.ref b926), .val (.int n), .val (.int (3 : Int32)), .unset, .unset, .unset, .unset] [(.int (own_max (n - (3 : Int32)) (0 : Int32)))])
    refine go_istore (pc' := 299) (l' := #[.val (.long x0), .second, .val (.long x1), .second, .val (.long x2), .second, .val (.int x3), .val (.int x4), .val (.ref b926), .val (.int n), .val (.int (3 : Int32)), .val (.int (own_max (n - (3 : Int32)) (0 : Int32))), .unset, .unset, .unset]) W1288 d0_297 rfl rfl ?_
    have hm := own_mm n (3 : Int32) nN 3 hn hn20 rfl (by decide)
    generalize (own_max (n - (3 : Int32)) (0 : Int32)) = m at hm ⊢
    show Go E _ (Fm E T1288 299 #[.val (.long x0), .second, .val (.long x1), .second, .val (.long x2), .second, .val (.int x3), .val (.int x4), .val (.ref b926), .val (.int n), .val (.int (3 : Int32)), .val (.int m), .unset, .unset, .unset] [])
    have lt1289 := Nat.lt_of_lt_of_le af1029.lt (Nat.le_refl _)
    refine go_new (pc' := 302) W1288 (w11 hw) (w12 hw) (w13 hw) d0_299 (nb rfl) (nb rfl) rfl ?_
    intro T1290 h1290 b1290 g1290 W1290 E1290 A1290 D1290 M1290
    have ne1291 : b926 ≠ b1290 := by rw [g1290]; exact Nat.ne_of_lt af1029.lt
    have ge1292 : n0 ≤ b1290 := by rw [g1290]; exact z1028
    have g1290x := Nat.le_of_eq g1290
    have g1290y := Nat.le_of_eq (Eq.symm g1290)
    have E1290x := E1290.1
    have f1293 := af1029.ext E1290
    have z1294 := Nat.le_trans z1028 E1290.1
    have f1295 : Fld Z h1290 b1290 "com/example/hornstone/hornstone/read/Position" "lines" "[I" .null := D1290 (Or.inr (w22 hw)) (ty := (.array .int)) (by decide)
    have f1296 : Fld Z h1290 b1290 "com/example/hornstone/hornstone/read/Position" "columns" "[I" .null := D1290 (Or.inr (w24 hw)) (ty := (.array .int)) (by decide)
    have f1297 : Fld Z h1290 b1290 "com/example/hornstone/hornstone/read/Position" "breaks" "[B" .null := D1290 (Or.inr (w27 hw)) (ty := (.array .byte)) (by decide)
    have f1298 : Fld Z h1290 b1290 "com/example/hornstone/hornstone/read/Position" "line" "I" (.int (0 : Int32)) := D1290 (Or.inl (w29 hw)) (ty := .int) (by decide)
    have f1299 : Fld Z h1290 b1290 "com/example/hornstone/hornstone/read/Position" "lastBreak" "B" (.int (0 : Int32)) := D1290 (Or.inl (w31 hw)) (ty := .byte) (by decide)
    have f1300 : Fld Z h1290 b1290 "com/example/hornstone/hornstone/read/Position" "newest" "I" (.int (0 : Int32)) := D1290 (Or.inl (w44 hw)) (ty := .int) (by decide)
    have f1301 : Fld Z h1290 b1290 "com/example/hornstone/hornstone/read/Position" "column" "I" (.int (0 : Int32)) := D1290 (Or.inl (w46 hw)) (ty := .int) (by decide)
    have f1302 : Fld Z h1290 b1290 "com/example/hornstone/hornstone/read/Position" "kept" "I" (.int (0 : Int32)) := D1290 (Or.inl (w48 hw)) (ty := .int) (by decide)
    refine go_dup (pc' := 303) W1290 d0_302 rfl rfl ?_
    refine go_callN (a := b1290) (kc := K3) (argsL := []) (rest := [(.ref b1290)]) (pc' := 306) W1290 (w14 hw) (w15 hw) (w13 hw) (w16 hw) (rm3 E.l Z a0 hw b1290 h1290 n0 z1294 A1290 f1295 f1296 f1297 f1300 f1302 f1298 f1301 f1299 ge1292) rfl rfl (by decide) pd4 rfl rfl rfl (nb rfl) (nb rfl) (nb rfl) (nb rfl) d0_303 rfl ?_
    rintro _ T1303 h1303 ⟨la1303, ca1303, ba1303, rfl, NE1303, s11303, s21303, s31303, K1303, P1303⟩ W1303
    have f1304 := A1290.keep K1303
    have z1305 := Nat.le_trans z1294 K1303.1
    have f1306 := f1293.keep K1303 (by simp only [List.mem_cons, List.not_mem_nil, or_false, not_or]; (repeat' apply And.intro) <;> (intro q; have q1 := Nat.le_of_eq q; have q2 := Nat.le_of_eq (Eq.symm q); omega))
    show Go E _ (Fm E T1303 306 #[.val (.long x0), .second, .val (.long x1), .second, .val (.long x2), .second, .val (.int x3), .val (.int x4), .val (.ref b926), .val (.int n), .val (.int (3 : Int32)), .val (.int m), .unset, .unset, .unset] [(.ref b1290)])
    refine go_astore (pc' := 308) (l' := #[.val (.long x0), .second, .val (.long x1), .second, .val (.long x2), .second, .val (.int x3), .val (.int x4), .val (.ref b926), .val (.int n), .val (.int (3 : Int32)), .val (.int m), .val (.ref b1290), .unset, .unset]) W1303 d0_306 rfl rfl rfl ?_
    refine go_aload (pc' := 310) W1303 d0_308 rfl rfl rfl ?_
    refine go_aload (pc' := 312) W1303 d0_310 rfl rfl rfl ?_
    refine go_iconst (pc' := 313) (z := 0) W1303 d0_312 rfl rfl ?_
    refine go_iload (pc' := 315) W1303 d0_313 rfl rfl ?_
    refine go_callV (a := b1290) (kc := K5) (argsL := [(.ref b926), (.int (0 : Int32)), (.int n)]) (rest := []) (pc' := 318) W1303 (w32 hw) (w33 hw) (nf_sel W1303 (w35 hw)) (w35 hw) (w34 hw) (w13 hw) (w36 hw) f1304 (rm5 E.l Z a0 hw b1290 b926 n la1303 ca1303 ba1303 fc1029 nN h1303 n0 z1305 P1303 NE1303 f1306 hc1029 (by simp only [List.mem_cons, List.not_mem_nil, or_false, not_or]; (repeat' apply And.intro) <;> (intro q; have q1 := Nat.le_of_eq q; have q2 := Nat.le_of_eq (Eq.symm q); omega)) hn hn20) (by decide) pd5 rfl rfl rfl (nb rfl) (nb rfl) (nb rfl) (nb rfl) d0_315 rfl ?_
    rintro _ T1307 h1307 ⟨rfl, K1307, nw1307, kp1307, t1307, fl1307, fc1307, fb1307, P1307, AI1307⟩ W1307
    have f1308 := f1304.keep K1307
    have z1309 := Nat.le_trans z1305 K1307.1
    have f1310 := f1306.keep K1307 (by simp only [List.mem_cons, List.not_mem_nil, or_false, not_or]; (repeat' apply And.intro) <;> (intro q; have q1 := Nat.le_of_eq q; have q2 := Nat.le_of_eq (Eq.symm q); omega))
    show Go E _ (Fm E T1307 318 #[.val (.long x0), .second, .val (.long x1), .second, .val (.long x2), .second, .val (.int x3), .val (.int x4), .val (.ref b926), .val (.int n), .val (.int (3 : Int32)), .val (.int m), .val (.ref b1290), .unset, .unset] [])
    refine go_iload (pc' := 320) W1307 d0_318 rfl rfl ?_
    refine go_iconst (pc' := 321) (z := 1) W1307 d0_320 rfl rfl ?_
    refine go_icmp_lt (pt := 329) (pf := 324) W1307 d0_321 (by decide) rfl rfl (fun c321_1311 => ?_) (fun c321_1311 => ?_)
    · exact absurd c321_1311 (by decide)
    · -- pc 321 not taken
      refine go_aload (pc' := 326) W1307 d0_324 rfl rfl rfl ?_
      refine go_callV (a := b1290) (kc := K9) (argsL := []) (rest := []) (pc' := 329) W1307 (w58 hw) (w59 hw) (nf_sel W1307 (w61 hw)) (w61 hw) (w60 hw) (w13 hw) (w62 hw) f1308 (rm9 E.l Z a0 hw b1290 la1303 ca1303 ba1303 nw1307 kp1307 t1307 fl1307 fc1307 fb1307 h1307 n0 z1309 P1307 NE1303 (own_BI_of AI1307).1 (own_BI_of AI1307).2.2.2.2.2.2.2) (by decide) pd4 rfl rfl rfl (nb rfl) (nb rfl) (nb rfl) (nb rfl) d0_326 rfl ?_
      rintro _ T1312 h1312 ⟨rfl, K1312, P1312⟩ W1312
      have B1312 := own_BI_step (own_BI_of AI1307) (by decide) (fun q => by omega)
      have f1313 := f1308.keep K1312
      have z1314 := Nat.le_trans z1309 K1312.1
      have f1315 := f1310.keep K1312 (by simp only [List.mem_cons, List.not_mem_nil, or_false, not_or]; (repeat' apply And.intro) <;> (intro q; have q1 := Nat.le_of_eq q; have q2 := Nat.le_of_eq (Eq.symm q); omega))
      show Go E _ (Fm E T1312 329 #[.val (.long x0), .second, .val (.long x1), .second, .val (.long x2), .second, .val (.int x3), .val (.int x4), .val (.ref b926), .val (.int n), .val (.int (3 : Int32)), .val (.int m), .val (.ref b1290), .unset, .unset] [])
      refine go_iload (pc' := 331) W1312 d0_329 rfl rfl ?_
      refine go_iconst (pc' := 332) (z := 2) W1312 d0_331 rfl rfl ?_
      refine go_icmp_lt (pt := 340) (pf := 335) W1312 d0_332 (by decide) rfl rfl (fun c332_1316 => ?_) (fun c332_1316 => ?_)
      · exact absurd c332_1316 (by decide)
      · -- pc 332 not taken
        refine go_aload (pc' := 337) W1312 d0_335 rfl rfl rfl ?_
        refine go_callV (a := b1290) (kc := K9) (argsL := []) (rest := []) (pc' := 340) W1312 (w58 hw) (w59 hw) (nf_sel W1312 (w61 hw)) (w61 hw) (w60 hw) (w13 hw) (w62 hw) f1313 (rm9 E.l Z a0 hw b1290 la1303 ca1303 ba1303 (own_sbN kp1307 nw1307) (own_sbK kp1307) (own_sbT kp1307 nw1307 t1307 fl1307 fc1307 fb1307) fl1307 fc1307 fb1307 h1312 n0 z1314 P1312 NE1303 B1312.1 B1312.2.2.2.2.2.2.2) (by decide) pd4 rfl rfl rfl (nb rfl) (nb rfl) (nb rfl) (nb rfl) d0_337 rfl ?_
        rintro _ T1317 h1317 ⟨rfl, K1317, P1317⟩ W1317
        have B1317 := own_BI_step B1312 (by decide) (fun q => by omega)
        have f1318 := f1313.keep K1317
        have z1319 := Nat.le_trans z1314 K1317.1
        have f1320 := f1315.keep K1317 (by simp only [List.mem_cons, List.not_mem_nil, or_false, not_or]; (repeat' apply And.intro) <;> (intro q; have q1 := Nat.le_of_eq q; have q2 := Nat.le_of_eq (Eq.symm q); omega))
        show Go E _ (Fm E T1317 340 #[.val (.long x0), .second, .val (.long x1), .second, .val (.long x2), .second, .val (.int x3), .val (.int x4), .val (.ref b926), .val (.int n), .val (.int (3 : Int32)), .val (.int m), .val (.ref b1290), .unset, .unset] [])
        refine go_iload (pc' := 342) W1317 d0_340 rfl rfl ?_
        refine go_iconst (pc' := 343) (z := 3) W1317 d0_342 rfl rfl ?_
        refine go_icmp_lt (pt := 351) (pf := 346) W1317 d0_343 (by decide) rfl rfl (fun c343_1321 => ?_) (fun c343_1321 => ?_)
        · exact absurd c343_1321 (by decide)
        · -- pc 343 not taken
          refine go_aload (pc' := 348) W1317 d0_346 rfl rfl rfl ?_
          refine go_callV (a := b1290) (kc := K9) (argsL := []) (rest := []) (pc' := 351) W1317 (w58 hw) (w59 hw) (nf_sel W1317 (w61 hw)) (w61 hw) (w60 hw) (w13 hw) (w62 hw) f1318 (rm9 E.l Z a0 hw b1290 la1303 ca1303 ba1303 (own_sbN (own_sbK kp1307) (own_sbN kp1307 nw1307)) (own_sbK (own_sbK kp1307)) (own_sbT (own_sbK kp1307) (own_sbN kp1307 nw1307) (own_sbT kp1307 nw1307 t1307 fl1307 fc1307 fb1307) fl1307 fc1307 fb1307) fl1307 fc1307 fb1307 h1317 n0 z1319 P1317 NE1303 B1317.1 B1317.2.2.2.2.2.2.2) (by decide) pd4 rfl rfl rfl (nb rfl) (nb rfl) (nb rfl) (nb rfl) d0_348 rfl ?_
          rintro _ T1322 h1322 ⟨rfl, K1322, P1322⟩ W1322
          have B1322 := own_BI_step B1317 (by decide) (fun q => by omega)
          have f1323 := f1318.keep K1322
          have z1324 := Nat.le_trans z1319 K1322.1
          have f1325 := f1320.keep K1322 (by simp only [List.mem_cons, List.not_mem_nil, or_false, not_or]; (repeat' apply And.intro) <;> (intro q; have q1 := Nat.le_of_eq q; have q2 := Nat.le_of_eq (Eq.symm q); omega))
          show Go E _ (Fm E T1322 351 #[.val (.long x0), .second, .val (.long x1), .second, .val (.long x2), .second, .val (.int x3), .val (.int x4), .val (.ref b926), .val (.int n), .val (.int (3 : Int32)), .val (.int m), .val (.ref b1290), .unset, .unset] [])
          have lt1327 := Nat.lt_of_lt_of_le f1325.lt (Nat.le_refl _)
          obtain ⟨lt1328, lu1328, lv1328, lw1328⟩ := own_Pos_lt P1322
          have lt1328n := Nat.lt_of_lt_of_le lt1328 (Nat.le_refl _)
          have lu1328n := Nat.lt_of_lt_of_le lu1328 (Nat.le_refl _)
          have lv1328n := Nat.lt_of_lt_of_le lv1328 (Nat.le_refl _)
          have lw1328n := Nat.lt_of_lt_of_le lw1328 (Nat.le_refl _)
          refine go_new (pc' := 354) W1322 (w11 hw) (w12 hw) (w13 hw) d0_351 (nb rfl) (nb rfl) rfl ?_
          intro T1329 h1329 b1329 g1329 W1329 E1329 A1329 D1329 M1329
          have ne1330 : b1290 ≠ b1329 := by rw [g1329]; exact Nat.ne_of_lt f1323.lt
          have ne1331 : b926 ≠ b1329 := by rw [g1329]; exact Nat.ne_of_lt f1325.lt
          have ge1332 : n0 ≤ b1329 := by rw [g1329]; exact z1324
          have g1329x := Nat.le_of_eq g1329
          have g1329y := Nat.le_of_eq (Eq.symm g1329)
          have E1329x := E1329.1
          have f1333 := f1323.ext E1329
          have f1334 := f1325.ext E1329
          have z1335 := Nat.le_trans z1324 E1329.1
          have P1336 := own_Pos_ext P1322 E1329
          have f1337 : Fld Z h1329 b1329 "com/example/hornstone/hornstone/read/Position" "lines" "[I" .null := D1329 (Or.inr (w22 hw)) (ty := (.array .int)) (by decide)
          have f1338 : Fld Z h1329 b1329 "com/example/hornstone/hornstone/read/Position" "columns" "[I" .null := D1329 (Or.inr (w24 hw)) (ty := (.array .int)) (by decide)
          have f1339 : Fld Z h1329 b1329 "com/example/hornstone/hornstone/read/Position" "breaks" "[B" .null := D1329 (Or.inr (w27 hw)) (ty := (.array .byte)) (by decide)
          have f1340 : Fld Z h1329 b1329 "com/example/hornstone/hornstone/read/Position" "line" "I" (.int (0 : Int32)) := D1329 (Or.inl (w29 hw)) (ty := .int) (by decide)
          have f1341 : Fld Z h1329 b1329 "com/example/hornstone/hornstone/read/Position" "lastBreak" "B" (.int (0 : Int32)) := D1329 (Or.inl (w31 hw)) (ty := .byte) (by decide)
          have f1342 : Fld Z h1329 b1329 "com/example/hornstone/hornstone/read/Position" "newest" "I" (.int (0 : Int32)) := D1329 (Or.inl (w44 hw)) (ty := .int) (by decide)
          have f1343 : Fld Z h1329 b1329 "com/example/hornstone/hornstone/read/Position" "column" "I" (.int (0 : Int32)) := D1329 (Or.inl (w46 hw)) (ty := .int) (by decide)
          have f1344 : Fld Z h1329 b1329 "com/example/hornstone/hornstone/read/Position" "kept" "I" (.int (0 : Int32)) := D1329 (Or.inl (w48 hw)) (ty := .int) (by decide)
          refine go_dup (pc' := 355) W1329 d0_354 rfl rfl ?_
          refine go_callN (a := b1329) (kc := K3) (argsL := []) (rest := [(.ref b1329)]) (pc' := 358) W1329 (w14 hw) (w15 hw) (w13 hw) (w16 hw) (rm3 E.l Z a0 hw b1329 h1329 n0 z1335 A1329 f1337 f1338 f1339 f1342 f1344 f1340 f1343 f1341 ge1332) rfl rfl (by decide) pd4 rfl rfl rfl (nb rfl) (nb rfl) (nb rfl) (nb rfl) d0_355 rfl ?_
          rintro _ T1345 h1345 ⟨la1345, ca1345, ba1345, rfl, NE1345, s11345, s21345, s31345, K1345, P1345⟩ W1345
          have f1346 := f1333.keep K1345
          have f1347 := A1329.keep K1345
          have z1348 := Nat.le_trans z1335 K1345.1
          have f1349 := f1334.keep K1345 (by simp only [List.mem_cons, List.not_mem_nil, or_false, not_or]; (repeat' apply And.intro) <;> (intro q; have q1 := Nat.le_of_eq q; have q2 := Nat.le_of_eq (Eq.symm q); omega))
          have P1350 := own_Pos_keep P1336 K1345 (by simp only [List.mem_cons, List.not_mem_nil, or_false, not_or]; (repeat' apply And.intro) <;> (intro q; have q1 := Nat.le_of_eq q; have q2 := Nat.le_of_eq (Eq.symm q); omega))
          show Go E _ (Fm E T1345 358 #[.val (.long x0), .second, .val (.long x1), .second, .val (.long x2), .second, .val (.int x3), .val (.int x4), .val (.ref b926), .val (.int n), .val (.int (3 : Int32)), .val (.int m), .val (.ref b1290), .unset, .unset] [(.ref b1329)])
          refine go_astore (pc' := 360) (l' := #[.val (.long x0), .second, .val (.long x1), .second, .val (.long x2), .second, .val (.int x3), .val (.int x4), .val (.ref b926), .val (.int n), .val (.int (3 : Int32)), .val (.int m), .val (.ref b1290), .val (.ref b1329), .unset]) W1345 d0_358 rfl rfl rfl ?_
          refine go_aload (pc' := 362) W1345 d0_360 rfl rfl rfl ?_
          refine go_aload (pc' := 364) W1345 d0_362 rfl rfl rfl ?_
          refine go_iconst (pc' := 365) (z := 0) W1345 d0_364 rfl rfl ?_
          refine go_iload (pc' := 367) W1345 d0_365 rfl rfl ?_
          refine go_callV (a := b1329) (kc := K5) (argsL := [(.ref b926), (.int (0 : Int32)), (.int m)]) (rest := []) (pc' := 370) W1345 (w32 hw) (w33 hw) (nf_sel W1345 (w35 hw)) (w35 hw) (w34 hw) (w13 hw) (w36 hw) f1347 (rm5 E.l Z a0 hw b1329 b926 m la1345 ca1345 ba1345 fc1029 (nN - 3) h1345 n0 z1348 P1345 NE1345 f1349 hc1029 (by simp only [List.mem_cons, List.not_mem_nil, or_false, not_or]; (repeat' apply And.intro) <;> (intro q; have q1 := Nat.le_of_eq q; have q2 := Nat.le_of_eq (Eq.symm q); omega)) hm (by omega)) (by decide) pd5 rfl rfl rfl (nb rfl) (nb rfl) (nb rfl) (nb rfl) d0_367 rfl ?_
          rintro _ T1351 h1351 ⟨rfl, K1351, nw1351, kp1351, t1351, fl1351, fc1351, fb1351, P1351, AI1351⟩ W1351
          have f1352 := f1346.keep K1351
          have f1353 := f1347.keep K1351
          have z1354 := Nat.le_trans z1348 K1351.1
          have f1355 := f1349.keep K1351 (by simp only [List.mem_cons, List.not_mem_nil, or_false, not_or]; (repeat' apply And.intro) <;> (intro q; have q1 := Nat.le_of_eq q; have q2 := Nat.le_of_eq (Eq.symm q); omega))
          have P1356 := own_Pos_keep P1350 K1351 (by simp only [List.mem_cons, List.not_mem_nil, or_false, not_or]; (repeat' apply And.intro) <;> (intro q; have q1 := Nat.le_of_eq q; have q2 := Nat.le_of_eq (Eq.symm q); omega))
          show Go E _ (Fm E T1351 370 #[.val (.long x0), .second, .val (.long x1), .second, .val (.long x2), .second, .val (.int x3), .val (.int x4), .val (.ref b926), .val (.int n), .val (.int (3 : Int32)), .val (.int m), .val (.ref b1290), .val (.ref b1329), .unset] [])
          have B0 := B1322
          have tp : (own_sbT (own_sbK (own_sbK kp1307)) (own_sbN (own_sbK kp1307) (own_sbN kp1307 nw1307)) (own_sbT (own_sbK kp1307) (own_sbN kp1307 nw1307) (own_sbT kp1307 nw1307 t1307 fl1307 fc1307 fb1307) fl1307 fc1307 fb1307) fl1307 fc1307 fb1307) = own_st fc1029 (nN - 3) := B0.2.2.1
          have tq : t1351 = own_st fc1029 (nN - 3) := AI1351.2.2.1
          have tpq : (own_sbT (own_sbK (own_sbK kp1307)) (own_sbN (own_sbK kp1307) (own_sbN kp1307 nw1307)) (own_sbT (own_sbK kp1307) (own_sbN kp1307 nw1307) (own_sbT kp1307 nw1307 t1307 fl1307 fc1307 fb1307) fl1307 fc1307 fb1307) fl1307 fc1307 fb1307) = t1351 := tp.trans tq.symm
          refine go_aload (pc' := 372) W1351 d0_370 rfl rfl rfl ?_
          refine go_callV (a := b1290) (kc := K10) (argsL := []) (rest := []) (pc' := 375) W1351 (w63 hw) (w64 hw) (nf_sel W1351 (w66 hw)) (w66 hw) (w65 hw) (w13 hw) (w67 hw) f1352 (rm10 E.l Z a0 hw b1290 la1303 ca1303 ba1303 (own_sbN (own_sbK (own_sbK kp1307)) (own_sbN (own_sbK kp1307) (own_sbN kp1307 nw1307))) (own_sbK (own_sbK (own_sbK kp1307))) (own_sbT (own_sbK (own_sbK kp1307)) (own_sbN (own_sbK kp1307) (own_sbN kp1307 nw1307)) (own_sbT (own_sbK kp1307) (own_sbN kp1307 nw1307) (own_sbT kp1307 nw1307 t1307 fl1307 fc1307 fb1307) fl1307 fc1307 fb1307) fl1307 fc1307 fb1307) fl1307 fc1307 fb1307 h1351 n0 z1354 P1356) (by decide) pd6 rfl rfl rfl (nb rfl) (nb rfl) (nb rfl) (nb rfl) d0_372 rfl ?_
          rintro _ T1357 h1357 ⟨rfl, q1357⟩ W1357
          replace W1357 := W1357.sub q1357
          show Go E _ (Fm E T1357 375 #[.val (.long x0), .second, .val (.long x1), .second, .val (.long x2), .second, .val (.int x3), .val (.int x4), .val (.ref b926), .val (.int n), .val (.int (3 : Int32)), .val (.int m), .val (.ref b1290), .val (.ref b1329), .unset] [(.int ((own_sbT (own_sbK (own_sbK kp1307)) (own_sbN (own_sbK kp1307) (own_sbN kp1307 nw1307)) (own_sbT (own_sbK kp1307) (own_sbN kp1307 nw1307) (own_sbT kp1307 nw1307 t1307 fl1307 fc1307 fb1307) fl1307 fc1307 fb1307) fl1307 fc1307 fb1307)).1)])
          refine go_aload (pc' := 377) W1357 d0_375 rfl rfl rfl ?_
          refine go_callV (a := b1329) (kc := K10) (argsL := []) (rest := [(.int ((own_sbT (own_sbK (own_sbK kp1307)) (own_sbN (own_sbK kp1307) (own_sbN kp1307 nw1307)) (own_sbT (own_sbK kp1307) (own_sbN kp1307 nw1307) (own_sbT kp1307 nw1307 t1307 fl1307 fc1307 fb1307) fl1307 fc1307 fb1307) fl1307 fc1307 fb1307)).1)]) (pc' := 380) W1357 (w63 hw) (w64 hw) (nf_sel W1357 (w66 hw)) (w66 hw) (w65 hw) (w13 hw) (w67 hw) f1353 (rm10 E.l Z a0 hw b1329 la1345 ca1345 ba1345 nw1351 kp1351 t1351 fl1351 fc1351 fb1351 h1351 n0 z1354 P1351) (by decide) pd6 rfl rfl rfl (nb rfl) (nb rfl) (nb rfl) (nb rfl) d0_377 rfl ?_
          rintro _ T1358 h1358 ⟨rfl, q1358⟩ W1358
          replace W1358 := W1358.sub q1358
          show Go E _ (Fm E T1358 380 #[.val (.long x0), .second, .val (.long x1), .second, .val (.long x2), .second, .val (.int x3), .val (.int x4), .val (.ref b926), .val (.int n), .val (.int (3 : Int32)), .val (.int m), .val (.ref b1290), .val (.ref b1329), .unset] [(.int (t1351).1), (.int ((own_sbT (own_sbK (own_sbK kp1307)) (own_sbN (own_sbK kp1307) (own_sbN kp1307 nw1307)) (own_sbT (own_sbK kp1307) (own_sbN kp1307 nw1307) (own_sbT kp1307 nw1307 t1307 fl1307 fc1307 fb1307) fl1307 fc1307 fb1307) fl1307 fc1307 fb1307)).1)])
          refine go_icmp_ne (pt := 413) (pf := 383) W1358 d0_380 (by decide) rfl rfl (fun c380_1359 => ?_) (fun c380_1359 => ?_)
          · exact absurd (congrArg (fun t : Tri => t.1) tpq) c380_1359
          · -- pc 380 not taken
            refine go_aload (pc' := 385) W1358 d0_383 rfl rfl rfl ?_
            refine go_callV (a := b1290) (kc := K11) (argsL := []) (rest := []) (pc' := 388) W1358 (w68 hw) (w69 hw) (nf_sel W1358 (w71 hw)) (w71 hw) (w70 hw) (w13 hw) (w72 hw) f1352 (rm11 E.l Z a0 hw b1290 la1303 ca1303 ba1303 (own_sbN (own_sbK (own_sbK kp1307)) (own_sbN (own_sbK kp1307) (own_sbN kp1307 nw1307))) (own_sbK (own_sbK (own_sbK kp1307))) (own_sbT (own_sbK (own_sbK kp1307)) (own_sbN (own_sbK kp1307) (own_sbN kp1307 nw1307)) (own_sbT (own_sbK kp1307) (own_sbN kp1307 nw1307) (own_sbT kp1307 nw1307 t1307 fl1307 fc1307 fb1307) fl1307 fc1307 fb1307) fl1307 fc1307 fb1307) fl1307 fc1307 fb1307 h1351 n0 z1354 P1356) (by decide) pd6 rfl rfl rfl (nb rfl) (nb rfl) (nb rfl) (nb rfl) d0_385 rfl ?_
            rintro _ T1360 h1360 ⟨rfl, q1360⟩ W1360
            replace W1360 := W1360.sub q1360
            show Go E _ (Fm E T1360 388 #[.val (.long x0), .second, .val (.long x1), .second, .val (.long x2), .second, .val (.int x3), .val (.int x4), .val (.ref b926), .val (.int n), .val (.int (3 : Int32)), .val (.int m), .val (.ref b1290), .val (.ref b1329), .unset] [(.int ((own_sbT (own_sbK (own_sbK kp1307)) (own_sbN (own_sbK kp1307) (own_sbN kp1307 nw1307)) (own_sbT (own_sbK kp1307) (own_sbN kp1307 nw1307) (own_sbT kp1307 nw1307 t1307 fl1307 fc1307 fb1307) fl1307 fc1307 fb1307) fl1307 fc1307 fb1307)).2.1)])
            refine go_aload (pc' := 390) W1360 d0_388 rfl rfl rfl ?_
            refine go_callV (a := b1329) (kc := K11) (argsL := []) (rest := [(.int ((own_sbT (own_sbK (own_sbK kp1307)) (own_sbN (own_sbK kp1307) (own_sbN kp1307 nw1307)) (own_sbT (own_sbK kp1307) (own_sbN kp1307 nw1307) (own_sbT kp1307 nw1307 t1307 fl1307 fc1307 fb1307) fl1307 fc1307 fb1307) fl1307 fc1307 fb1307)).2.1)]) (pc' := 393) W1360 (w68 hw) (w69 hw) (nf_sel W1360 (w71 hw)) (w71 hw) (w70 hw) (w13 hw) (w72 hw) f1353 (rm11 E.l Z a0 hw b1329 la1345 ca1345 ba1345 nw1351 kp1351 t1351 fl1351 fc1351 fb1351 h1351 n0 z1354 P1351) (by decide) pd6 rfl rfl rfl (nb rfl) (nb rfl) (nb rfl) (nb rfl) d0_390 rfl ?_
            rintro _ T1361 h1361 ⟨rfl, q1361⟩ W1361
            replace W1361 := W1361.sub q1361
            show Go E _ (Fm E T1361 393 #[.val (.long x0), .second, .val (.long x1), .second, .val (.long x2), .second, .val (.int x3), .val (.int x4), .val (.ref b926), .val (.int n), .val (.int (3 : Int32)), .val (.int m), .val (.ref b1290), .val (.ref b1329), .unset] [(.int (t1351).2.1), (.int ((own_sbT (own_sbK (own_sbK kp1307)) (own_sbN (own_sbK kp1307) (own_sbN kp1307 nw1307)) (own_sbT (own_sbK kp1307) (own_sbN kp1307 nw1307) (own_sbT kp1307 nw1307 t1307 fl1307 fc1307 fb1307) fl1307 fc1307 fb1307) fl1307 fc1307 fb1307)).2.1)])
            refine go_icmp_ne (pt := 413) (pf := 396) W1361 d0_393 (by decide) rfl rfl (fun c393_1362 => ?_) (fun c393_1362 => ?_)
            · exact absurd (congrArg (fun t : Tri => t.2.1) tpq) c393_1362
            · -- pc 393 not taken
              refine go_aload (pc' := 398) W1361 d0_396 rfl rfl rfl ?_
              refine go_callV (a := b1290) (kc := K12) (argsL := []) (rest := []) (pc' := 401) W1361 (w73 hw) (w74 hw) (nf_sel W1361 (w76 hw)) (w76 hw) (w75 hw) (w13 hw) (w77 hw) f1352 (rm12 E.l Z a0 hw b1290 la1303 ca1303 ba1303 (own_sbN (own_sbK (own_sbK kp1307)) (own_sbN (own_sbK kp1307) (own_sbN kp1307 nw1307))) (own_sbK (own_sbK (own_sbK kp1307))) (own_sbT (own_sbK (own_sbK kp1307)) (own_sbN (own_sbK kp1307) (own_sbN kp1307 nw1307)) (own_sbT (own_sbK kp1307) (own_sbN kp1307 nw1307) (own_sbT kp1307 nw1307 t1307 fl1307 fc1307 fb1307) fl1307 fc1307 fb1307) fl1307 fc1307 fb1307) fl1307 fc1307 fb1307 h1351 n0 z1354 P1356) (by decide) pd6 rfl rfl rfl (nb rfl) (nb rfl) (nb rfl) (nb rfl) d0_398 rfl ?_
              rintro _ T1363 h1363 ⟨rfl, q1363⟩ W1363
              replace W1363 := W1363.sub q1363
              show Go E _ (Fm E T1363 401 #[.val (.long x0), .second, .val (.long x1), .second, .val (.long x2), .second, .val (.int x3), .val (.int x4), .val (.ref b926), .val (.int n), .val (.int (3 : Int32)), .val (.int m), .val (.ref b1290), .val (.ref b1329), .unset] [(.int (own_nl (own_sbT (own_sbK (own_sbK kp1307)) (own_sbN (own_sbK kp1307) (own_sbN kp1307 nw1307)) (own_sbT (own_sbK kp1307) (own_sbN kp1307 nw1307) (own_sbT kp1307 nw1307 t1307 fl1307 fc1307 fb1307) fl1307 fc1307 fb1307) fl1307 fc1307 fb1307)))])
              refine go_aload (pc' := 403) W1363 d0_401 rfl rfl rfl ?_
              refine go_callV (a := b1329) (kc := K12) (argsL := []) (rest := [(.int (own_nl (own_sbT (own_sbK (own_sbK kp1307)) (own_sbN (own_sbK kp1307) (own_sbN kp1307 nw1307)) (own_sbT (own_sbK kp1307) (own_sbN kp1307 nw1307) (own_sbT kp1307 nw1307 t1307 fl1307 fc1307 fb1307) fl1307 fc1307 fb1307) fl1307 fc1307 fb1307)))]) (pc' := 406) W1363 (w73 hw) (w74 hw) (nf_sel W1363 (w76 hw)) (w76 hw) (w75 hw) (w13 hw) (w77 hw) f1353 (rm12 E.l Z a0 hw b1329 la1345 ca1345 ba1345 nw1351 kp1351 t1351 fl1351 fc1351 fb1351 h1351 n0 z1354 P1351) (by decide) pd6 rfl rfl rfl (nb rfl) (nb rfl) (nb rfl) (nb rfl) d0_403 rfl ?_
              rintro _ T1364 h1364 ⟨rfl, q1364⟩ W1364
              replace W1364 := W1364.sub q1364
              show Go E _ (Fm E T1364 406 #[.val (.long x0), .second, .val (.long x1), .second, .val (.long x2), .second, .val (.int x3), .val (.int x4), .val (.ref b926), .val (.int n), .val (.int (3 : Int32)), .val (.int m), .val (.ref b1290), .val (.ref b1329), .unset] [(.int (own_nl t1351)), (.int (own_nl (own_sbT (own_sbK (own_sbK kp1307)) (own_sbN (own_sbK kp1307) (own_sbN kp1307 nw1307)) (own_sbT (own_sbK kp1307) (own_sbN kp1307 nw1307) (own_sbT kp1307 nw1307 t1307 fl1307 fc1307 fb1307) fl1307 fc1307 fb1307) fl1307 fc1307 fb1307)))])
              refine go_icmp_ne (pt := 413) (pf := 409) W1364 d0_406 (by decide) rfl rfl (fun c406_1365 => ?_) (fun c406_1365 => ?_)
              · exact absurd (congrArg own_nl tpq) c406_1365
              · -- pc 406 not taken
                refine go_iconst (pc' := 410) (z := 1) W1364 d0_409 rfl rfl ?_
                refine go_goto (pc' := 414) W1364 d0_410 (by decide) rfl ?_
                refine go_istore (pc' := 416) (l' := #[.val (.long x0), .second, .val (.long x1), .second, .val (.long x2), .second, .val (.int x3), .val (.int x4), .val (.ref b926), .val (.int n), .val (.int (3 : Int32)), .val (.int m), .val (.ref b1290), .val (.ref b1329), .val (.int (1 : Int32))]) W1364 d0_414 rfl rfl ?_
                refine go_aload (pc' := 418) W1364 d0_416 rfl rfl rfl ?_
                refine go_bipush (pc' := 420) (z := 10) W1364 d0_418 (by decide) rfl ?_
                refine go_callV (a := b1290) (kc := K6) (argsL := [(.int (10 : Int32))]) (rest := []) (pc' := 423) W1364 (w78 hw) (w39 hw) (nf_sel W1364 (w41 hw)) (w41 hw) (w40 hw) (w13 hw) (w42 hw) f1352 (rm6 E.l Z a0 hw b1290 (10 : Int32) la1303 ca1303 ba1303 (own_sbN (own_sbK (own_sbK kp1307)) (own_sbN (own_sbK kp1307) (own_sbN kp1307 nw1307))) (own_sbK (own_sbK (own_sbK kp1307))) (own_sbT (own_sbK (own_sbK kp1307)) (own_sbN (own_sbK kp1307) (own_sbN kp1307 nw1307)) (own_sbT (own_sbK kp1307) (own_sbN kp1307 nw1307) (own_sbT kp1307 nw1307 t1307 fl1307 fc1307 fb1307) fl1307 fc1307 fb1307) fl1307 fc1307 fb1307) fl1307 fc1307 fb1307 h1351 n0 z1354 P1356 NE1303 B0.1 B0.2.2.2.2.2.2.1) (by decide) pd2 rfl rfl rfl (nb rfl) (nb rfl) (nb rfl) (nb rfl) d0_420 rfl ?_
                rintro _ T1366 h1366 ⟨rfl, K1366, P1366⟩ W1366
                have f1367 := f1352.keep K1366
                have f1368 := f1353.keep K1366
                have z1369 := Nat.le_trans z1354 K1366.1
                have f1370 := f1355.keep K1366 (by simp only [List.mem_cons, List.not_mem_nil, or_false, not_or]; (repeat' apply And.intro) <;> (intro q; have q1 := Nat.le_of_eq q; have q2 := Nat.le_of_eq (Eq.symm q); omega))
                have P1371 := own_Pos_keep P1351 K1366 (by simp only [List.mem_cons, List.not_mem_nil, or_false, not_or]; (repeat' apply And.intro) <;> (intro q; have q1 := Nat.le_of_eq q; have q2 := Nat.le_of_eq (Eq.symm q); omega))
                show Go E _ (Fm E T1366 423 #[.val (.long x0), .second, .val (.long x1), .second, .val (.long x2), .second, .val (.int x3), .val (.int x4), .val (.ref b926), .val (.int n), .val (.int (3 : Int32)), .val (.int m), .val (.ref b1290), .val (.ref b1329), .val (.int (1 : Int32))] [])
                refine go_aload (pc' := 425) W1366 d0_423 rfl rfl rfl ?_
                refine go_bipush (pc' := 427) (z := 10) W1366 d0_425 (by decide) rfl ?_
                refine go_callV (a := b1329) (kc := K6) (argsL := [(.int (10 : Int32))]) (rest := []) (pc' := 430) W1366 (w78 hw) (w39 hw) (nf_sel W1366 (w41 hw)) (w41 hw) (w40 hw) (w13 hw) (w42 hw) f1368 (rm6 E.l Z a0 hw b1329 (10 : Int32) la1345 ca1345 ba1345 nw1351 kp1351 t1351 fl1351 fc1351 fb1351 h1366 n0 z1369 P1371 NE1345 AI1351.1 AI1351.2.2.2.2.2.2.1) (by decide) pd2 rfl rfl rfl (nb rfl) (nb rfl) (nb rfl) (nb rfl) d0_427 rfl ?_
                rintro _ T1372 h1372 ⟨rfl, K1372, P1372⟩ W1372
                have f1373 := f1367.keep K1372
                have f1374 := f1368.keep K1372
                have z1375 := Nat.le_trans z1369 K1372.1
                have f1376 := f1370.keep K1372 (by simp only [List.mem_cons, List.not_mem_nil, or_false, not_or]; (repeat' apply And.intro) <;> (intro q; have q1 := Nat.le_of_eq q; have q2 := Nat.le_of_eq (Eq.symm q); omega))
                have P1377 := own_Pos_keep P1366 K1372 (by simp only [List.mem_cons, List.not_mem_nil, or_false, not_or]; (repeat' apply And.intro) <;> (intro q; have q1 := Nat.le_of_eq q; have q2 := Nat.le_of_eq (Eq.symm q); omega))
                show Go E _ (Fm E T1372 430 #[.val (.long x0), .second, .val (.long x1), .second, .val (.long x2), .second, .val (.int x3), .val (.int x4), .val (.ref b926), .val (.int n), .val (.int (3 : Int32)), .val (.int m), .val (.ref b1290), .val (.ref b1329), .val (.int (1 : Int32))] [])
                refine go_iload (pc' := 432) W1372 d0_430 rfl rfl ?_
                refine go_if_eq (pt := 452) (pf := 435) W1372 d0_432 (by decide) rfl rfl (fun c432_1378 => ?_) (fun c432_1378 => ?_)
                · exact absurd c432_1378 (by decide)
                · -- pc 432 not taken
                  refine go_aload (pc' := 437) W1372 d0_435 rfl rfl rfl ?_
                  refine go_callV (a := b1290) (kc := K10) (argsL := []) (rest := []) (pc' := 440) W1372 (w63 hw) (w64 hw) (nf_sel W1372 (w66 hw)) (w66 hw) (w65 hw) (w13 hw) (w67 hw) f1373 (rm10 E.l Z a0 hw b1290 la1303 ca1303 ba1303 (((own_sbN (own_sbK (own_sbK kp1307)) (own_sbN (own_sbK kp1307) (own_sbN kp1307 nw1307))) + 1) % 16) (own_min ((own_sbK (own_sbK (own_sbK kp1307))) + 1) 16) (own_step (own_sbT (own_sbK (own_sbK kp1307)) (own_sbN (own_sbK kp1307) (own_sbN kp1307 nw1307)) (own_sbT (own_sbK kp1307) (own_sbN kp1307 nw1307) (own_sbT kp1307 nw1307 t1307 fl1307 fc1307 fb1307) fl1307 fc1307 fb1307) fl1307 fc1307 fb1307) (10 : Int32)) (own_upd fl1307 (own_ix (((own_sbN (own_sbK (own_sbK kp1307)) (own_sbN (own_sbK kp1307) (own_sbN kp1307 nw1307))) + 1) % 16)) (own_sbT (own_sbK (own_sbK kp1307)) (own_sbN (own_sbK kp1307) (own_sbN kp1307 nw1307)) (own_sbT (own_sbK kp1307) (own_sbN kp1307 nw1307) (own_sbT kp1307 nw1307 t1307 fl1307 fc1307 fb1307) fl1307 fc1307 fb1307) fl1307 fc1307 fb1307).1) (own_upd fc1307 (own_ix (((own_sbN (own_sbK (own_sbK kp1307)) (own_sbN (own_sbK kp1307) (own_sbN kp1307 nw1307))) + 1) % 16)) (own_sbT (own_sbK (own_sbK kp1307)) (own_sbN (own_sbK kp1307) (own_sbN kp1307 nw1307)) (own_sbT (own_sbK kp1307) (own_sbN kp1307 nw1307) (own_sbT kp1307 nw1307 t1307 fl1307 fc1307 fb1307) fl1307 fc1307 fb1307) fl1307 fc1307 fb1307).2.1) (own_upd fb1307 (own_ix (((own_sbN (own_sbK (own_sbK kp1307)) (own_sbN (own_sbK kp1307) (own_sbN kp1307 nw1307))) + 1) % 16)) (own_sbT (own_sbK (own_sbK kp1307)) (own_sbN (own_sbK kp1307) (own_sbN kp1307 nw1307)) (own_sbT (own_sbK kp1307) (own_sbN kp1307 nw1307) (own_sbT kp1307 nw1307 t1307 fl1307 fc1307 fb1307) fl1307 fc1307 fb1307) fl1307 fc1307 fb1307).2.2) h1372 n0 z1375 P1377) (by decide) pd6 rfl rfl rfl (nb rfl) (nb rfl) (nb rfl) (nb rfl) d0_437 rfl ?_
                  rintro _ T1379 h1379 ⟨rfl, q1379⟩ W1379
                  replace W1379 := W1379.sub q1379
                  show Go E _ (Fm E T1379 440 #[.val (.long x0), .second, .val (.long x1), .second, .val (.long x2), .second, .val (.int x3), .val (.int x4), .val (.ref b926), .val (.int n), .val (.int (3 : Int32)), .val (.int m), .val (.ref b1290), .val (.ref b1329), .val (.int (1 : Int32))] [(.int ((own_step (own_sbT (own_sbK (own_sbK kp1307)) (own_sbN (own_sbK kp1307) (own_sbN kp1307 nw1307)) (own_sbT (own_sbK kp1307) (own_sbN kp1307 nw1307) (own_sbT kp1307 nw1307 t1307 fl1307 fc1307 fb1307) fl1307 fc1307 fb1307) fl1307 fc1307 fb1307) (10 : Int32))).1)])
                  refine go_aload (pc' := 442) W1379 d0_440 rfl rfl rfl ?_
                  refine go_callV (a := b1329) (kc := K10) (argsL := []) (rest := [(.int ((own_step (own_sbT (own_sbK (own_sbK kp1307)) (own_sbN (own_sbK kp1307) (own_sbN kp1307 nw1307)) (own_sbT (own_sbK kp1307) (own_sbN kp1307 nw1307) (own_sbT kp1307 nw1307 t1307 fl1307 fc1307 fb1307) fl1307 fc1307 fb1307) fl1307 fc1307 fb1307) (10 : Int32))).1)]) (pc' := 445) W1379 (w63 hw) (w64 hw) (nf_sel W1379 (w66 hw)) (w66 hw) (w65 hw) (w13 hw) (w67 hw) f1374 (rm10 E.l Z a0 hw b1329 la1345 ca1345 ba1345 ((nw1351 + 1) % 16) (own_min (kp1351 + 1) 16) (own_step t1351 (10 : Int32)) (own_upd fl1351 (own_ix ((nw1351 + 1) % 16)) t1351.1) (own_upd fc1351 (own_ix ((nw1351 + 1) % 16)) t1351.2.1) (own_upd fb1351 (own_ix ((nw1351 + 1) % 16)) t1351.2.2) h1372 n0 z1375 P1372) (by decide) pd6 rfl rfl rfl (nb rfl) (nb rfl) (nb rfl) (nb rfl) d0_442 rfl ?_
                  rintro _ T1380 h1380 ⟨rfl, q1380⟩ W1380
                  replace W1380 := W1380.sub q1380
                  show Go E _ (Fm E T1380 445 #[.val (.long x0), .second, .val (.long x1), .second, .val (.long x2), .second, .val (.int x3), .val (.int x4), .val (.ref b926), .val (.int n), .val (.int (3 : Int32)), .val (.int m), .val (.ref b1290), .val (.ref b1329), .val (.int (1 : Int32))] [(.int ((own_step t1351 (10 : Int32))).1), (.int ((own_step (own_sbT (own_sbK (own_sbK kp1307)) (own_sbN (own_sbK kp1307) (own_sbN kp1307 nw1307)) (own_sbT (own_sbK kp1307) (own_sbN kp1307 nw1307) (own_sbT kp1307 nw1307 t1307 fl1307 fc1307 fb1307) fl1307 fc1307 fb1307) fl1307 fc1307 fb1307) (10 : Int32))).1)])
                  refine go_icmp_ne (pt := 452) (pf := 448) W1380 d0_445 (by decide) rfl rfl (fun c445_1381 => ?_) (fun c445_1381 => ?_)
                  · exact absurd (congrArg (fun t : Tri => (own_step t (10 : Int32)).1) tpq) c445_1381
                  · -- pc 445 not taken
                    refine go_iconst (pc' := 449) (z := 1) W1380 d0_448 rfl rfl ?_
                    refine go_goto (pc' := 453) W1380 d0_449 (by decide) rfl ?_
                    exact go_retI W1380 (t := .boolean) rfl (by simp) rfl d0_453 (nb rfl) (nb rfl) (rfl)
set_option maxRecDepth 65536 in
theorem comes_1 {Post : Tables → Env → Array Value → State → Outcome → State → Prop} (hpost : ∀ tb e args s v u, (limb_1_1.after args s (.returned v) u = true ∧ limb_1_2.after args s (.returned v) u = true) → FrameEnd s (.returned v) u (Jvm.fieldLocs frame_1_writes args s ++ Jvm.arrayLocs frame_1_arrays args s ++ Jvm.staticLocs frame_1_statics s) 32 384 → Post tb e args s (.returned v) u) :
    ArmFor flags0 classFile x code maxLocals ret World_1 tables_1 room_1 Calls_1 rest_1 Pre_1 Post := by
  intro l hfl _ _ p e ha hc hk s m args below hf hA hF happ hP
  obtain ⟨hcalls, hrest, hpre⟩ := hP
  obtain ⟨-, -, -, hnamed, -, -, -, hat⟩ := (Spec.applies_iff hf).mp happ
  obtain ⟨hg, hn⟩ := and_e (Cond.before_iff.mp (show (Jvm.Cond.and given_1 narrow_1).before args s = true from hpre))
  obtain ⟨hct, g0⟩ := and_e hg
  obtain ⟨a0, g1⟩ := and_e g0
  obtain ⟨a1, g2⟩ := and_e g1
  obtain ⟨a2, g3⟩ := and_e g2
  obtain ⟨a3, g4⟩ := and_e g3
  obtain ⟨v0, v1, v2, v3, v4, rfl⟩ : ∃ v0 v1 v2 v3 v4 : Value, args = #[v0, v1, v2, v3, v4] := by
    have hs : args.size = 5 := by simpa [Cond.value, given_1] using hct
    obtain ⟨L⟩ := args
    match L, hs with
    | [v0, v1, v2, v3, v4], _ => exact ⟨v0, v1, v2, v3, v4, rfl⟩
  have hw := fun d (hd : d ∈ tables_1) => atoms_spec (ws := Jvm.Cond.code x code maxLocals ret :: tables_1) hat d (List.mem_cons_of_mem _ hd)
  have hfit : Fit s := fun {y c} hc i hi => by
    obtain ⟨ha, rfl⟩ := Array.getElem?_eq_some_iff.mp hc
    have q := List.all_eq_true.mp ((Array.all_eq_true_iff_forall_mem.mp hF) _ (Array.getElem_mem ha)) i (List.mem_range.mpr hi)
    simpa [Array.getElem?_eq_getElem hi] using q
  obtain ⟨i0, ei0⟩ := isL_v a0
  obtain rfl : v0 = (.long i0) := Option.some.inj ei0
  obtain ⟨i1, ei1⟩ := isL_v a1
  obtain rfl : v1 = (.long i1) := Option.some.inj ei1
  obtain ⟨i2, ei2⟩ := isL_v a2
  obtain rfl : v2 = (.long i2) := Option.some.inj ei2
  obtain ⟨i3, ei3⟩ := is_v a3
  obtain rfl : v3 = (.int i3) := Option.some.inj ei3
  obtain ⟨i4, ei4⟩ := is_v g4
  obtain rfl : v4 = (.int i4) := Option.some.inj ei4
  obtain ⟨n, o, h1, h2, h3, _, L, rfl, ⟨rfl, N⟩, hq⟩ := rm0 l s _ hw i0 i1 i2 i3 i4  s.heap s.heap.size (Nat.le_refl _)  tables_1 p e ha hc hk s m _ below hf ((Spec.applies_iff_loose hf).mp happ).1 ⟨rfl, State.Warmed39.refl s, rfl⟩ trivial
  exact ⟨n, _, h1, h2, h3, hpost _ _ _ _ _ _ ⟨Cond.after_iff.mpr rfl, Cond.after_iff.mpr (eq_i res_at (Term.int_eval (1)) rfl)⟩ ⟨hq.1, hq.2.1, (hq.2.2.sift fun y hy => Or.inr (N y hy)).mono (by decide) (by decide)⟩⟩
theorem main_1_1 : Claimed_1_1 := comes_1 fun _ _ _ _ _ _ h hF => ⟨h.1, hF⟩
theorem main_1_2 : Claimed_1_2 := comes_1 fun _ _ _ _ _ _ h hF => ⟨h.2, hF⟩
end Jvm.Pilot.@@N@@
namespace Jvm.Pilot.@@N@@
open Jvm Jvm.ClassFile Sem Op Lib Jvm.Free Jvm.Stand Jvm.Pilot.@@N@@.Jvm.D
/-! MADE BY PROGRAM (witnessworld.py) out of the Statement's table words and the real class files: 15 classes; the members and pool entries that the words name. The judged class is class 1, her method 2. -/
namespace start1
open Jvm.ClassFile
def u (s : String) : CpInfo := .utf8 (stringToUtf16 s)
/-- a pool by its gaps: so many unusable entries, then the entry; so many at the end -/
def gap : Nat → List CpInfo → List CpInfo
  | 0, r => r
  | n + 1, r => .unusable :: gap n r
def poolList (es : List (Nat × CpInfo)) (last : Nat) : List CpInfo := es.foldr (fun e r => gap e.1 (e.2 :: r)) (gap last [])
def pool (es : List (Nat × CpInfo)) (last : Nat) : Array CpInfo := ⟨poolList es last⟩
def fileOf (pool : Array CpInfo) (this : Nat) (attrs : Array Attribute := #[]) (ms : Array MethodInfo := #[]) (fl : Nat := 33) (sup : Nat := 0) (ifs : Array Nat := #[]) (fds : Array FieldInfo := #[]) : ClassFile where
  minorVersion := 0
  majorVersion := 65
  constantPool := pool
  accessFlags := fl
  thisClass := this
  superClass := sup
  interfaces := ifs
  fields := fds
  methods := ms
  attributes := attrs
def plain (name : String) (sup : Option ClassId) : Class where
  name := name
  kind := .ordinary
  loader := none
  accessFlags := 33
  super := sup
  interfaces := #[]
  cf := none
  fields := #[]
  methods := #[]
  instanceTypes := #[]
  staticTypes := #[]
  resolved := #[]
  callSites := []
  init := .initialized
  statics := none
  mirror := none

def pool0 : Array CpInfo := pool [(5, u "<init>"), (0, u "()V"), (1, .class_ 10), (1, u "java/lang/Object")] 113

def k0c0 : Code := { maxStack := 0, maxLocals := 1, code := object_method_1_code, exceptionTable := #[], attributes := #[] }
def k0m0 : Method := { name := "<init>", desc := "()V", sig := { parameters := [], returnType := none }, accessFlags := 1, code := some k0c0 }
/-- java/lang/Object -/
def k0 : Class := { plain "java/lang/Object" none with
  accessFlags := 33
  interfaces := #[]
  cf := some (fileOf pool0 8 #[] #[{ accessFlags := 1, nameIndex := 5, descriptorIndex := 6, attributes := #[] }] 33 0 #[] #[])
  fields := #[]
  methods := #[k0m0]
  instanceTypes := #[]
  staticTypes := #[]
  resolved := Array.replicate 124 none
  statics := none }

def pool1 : Array CpInfo := pool [(2, .class_ 4), (0, .nameAndType 5 6), (0, u "java/lang/Object"), (0, u "<init>"), (0, u "()V"), (0, .integer 65535), (0, .integer 56320), (0, .integer 55296), (0, .methodref 11 12), (0, .class_ 13), (0, .nameAndType 14 15), (0, u "com/example/hornstone/hornstone/read/PositionStepBackPinLaw"), (0, u "pick"), (0, u "(JIJI)C"), (0, .integer 2147483647), (0, .methodref 18 19), (0, .class_ 20), (0, .nameAndType 21 22), (0, u "java/lang/Math"), (0, u "max"), (0, u "(II)I"), (0, .class_ 24), (0, u "com/example/hornstone/hornstone/read/Position"), (0, .methodref 23 3), (0, .methodref 23 27), (0, .nameAndType 28 29), (0, u "advance"), (0, u "([CII)V"), (0, .methodref 23 31), (0, .nameAndType 32 6), (0, u "stepBack"), (0, .methodref 23 34), (0, .nameAndType 35 36), (0, u "line"), (0, u "()I"), (0, .methodref 23 38), (0, .nameAndType 39 36), (0, u "column"), (0, .methodref 23 41), (0, .nameAndType 42 36), (0, u "nextLine"), (0, .methodref 23 44), (0, .nameAndType 28 45), (0, u "(I)V"), (3, u "law"), (0, u "(JJJII)Z")] 4

def k1m0 : Method := { name := "<init>", desc := "()V", sig := { parameters := [], returnType := none }, accessFlags := 1, code := none }
def k1c1 : Code := { maxStack := 4, maxLocals := 8, code := method_2_code, exceptionTable := #[], attributes := #[] }
def k1m1 : Method := { name := "pick", desc := "(JIJI)C", sig := { parameters := [.long, .int, .long, .int], returnType := some .char }, accessFlags := 10, code := some k1c1 }
def k1c2 : Code := { maxStack := 8, maxLocals := 15, code := code, exceptionTable := #[], attributes := #[] }
def k1m2 : Method := { name := "law", desc := "(JJJII)Z", sig := { parameters := [.long, .long, .long, .int, .int], returnType := some .boolean }, accessFlags := 9, code := some k1c2 }
/-- com/example/hornstone/hornstone/read/PositionStepBackPinLaw -/
def k1 : Class := { plain "com/example/hornstone/hornstone/read/PositionStepBackPinLaw" (some 0) with
  accessFlags := 49
  interfaces := #[]
  cf := some (fileOf pool1 11 #[] #[{ accessFlags := 1, nameIndex := 5, descriptorIndex := 6, attributes := #[] }, { accessFlags := 10, nameIndex := 14, descriptorIndex := 15, attributes := #[] }, { accessFlags := 9, nameIndex := 49, descriptorIndex := 50, attributes := #[] }] 49 2 #[] #[])
  fields := #[]
  methods := #[k1m0, k1m1, k1m2]
  instanceTypes := #[]
  staticTypes := #[]
  resolved := Array.replicate 55 none
  statics := none }

def pool2 : Array CpInfo := pool [(1, .class_ 2), (0, u "java/lang/Math"), (1, .class_ 6), (1, u "java/lang/Object"), (0, u "<init>"), (0, u "()V"), (89, .class_ 100), (1, u "java/lang/Math$RandomNumberGeneratorHolder"), (71, u "negativeZeroFloatBits"), (0, u "J"), (2, u "negativeZeroDoubleBits"), (21, u "max"), (2, u "min"), (43, u "$assertionsDisabled"), (0, u "Z"), (88, u "(II)I"), (2, u "twoToTheDoubleScaleDown"), (0, u "D"), (4, u "twoToTheDoubleScaleUp"), (9, u "E"), (3, u "PI"), (2, u "TAU"), (2, u "DEGREES_TO_RADIANS"), (0, u "RADIANS_TO_DEGREES")] 94

def k2m0 : Method := { name := "<init>", desc := "()V", sig := { parameters := [], returnType := none }, accessFlags := 2, code := none }
def k2c1 : Code := { maxStack := 2, maxLocals := 2, code := jdk_29_method_65_code, exceptionTable := #[], attributes := #[] }
def k2m1 : Method := { name := "max", desc := "(II)I", sig := { parameters := [.int, .int], returnType := some .int }, accessFlags := 9, code := some k2c1 }
def k2c2 : Code := { maxStack := 2, maxLocals := 2, code := jdk_29_method_69_code, exceptionTable := #[], attributes := #[] }
def k2m2 : Method := { name := "min", desc := "(II)I", sig := { parameters := [.int, .int], returnType := some .int }, accessFlags := 9, code := some k2c2 }
/-- java/lang/Math -/
def k2 : Class := { plain "java/lang/Math" (some 0) with
  accessFlags := 49
  interfaces := #[]
  cf := some (fileOf pool2 1 #[.nestMembers #[98]] #[{ accessFlags := 2, nameIndex := 7, descriptorIndex := 8, attributes := #[] }, { accessFlags := 9, nameIndex := 198, descriptorIndex := 335, attributes := #[] }, { accessFlags := 9, nameIndex := 201, descriptorIndex := 335, attributes := #[] }] 49 4 #[] #[{ accessFlags := 25, nameIndex := 354, descriptorIndex := 339, attributes := #[] }, { accessFlags := 25, nameIndex := 358, descriptorIndex := 339, attributes := #[] }, { accessFlags := 25, nameIndex := 361, descriptorIndex := 339, attributes := #[] }, { accessFlags := 26, nameIndex := 364, descriptorIndex := 339, attributes := #[] }, { accessFlags := 26, nameIndex := 365, descriptorIndex := 339, attributes := #[] }, { accessFlags := 26, nameIndex := 172, descriptorIndex := 173, attributes := #[] }, { accessFlags := 26, nameIndex := 176, descriptorIndex := 173, attributes := #[] }, { accessFlags := 8, nameIndex := 344, descriptorIndex := 339, attributes := #[] }, { accessFlags := 8, nameIndex := 338, descriptorIndex := 339, attributes := #[] }, { accessFlags := 4120, nameIndex := 245, descriptorIndex := 246, attributes := #[] }])
  fields := #[{ name := "E", type := .double, accessFlags := 25, slot := 0, constantValue := 0 }, { name := "PI", type := .double, accessFlags := 25, slot := 1, constantValue := 0 }, { name := "TAU", type := .double, accessFlags := 25, slot := 2, constantValue := 0 }, { name := "DEGREES_TO_RADIANS", type := .double, accessFlags := 26, slot := 3, constantValue := 0 }, { name := "RADIANS_TO_DEGREES", type := .double, accessFlags := 26, slot := 4, constantValue := 0 }, { name := "negativeZeroFloatBits", type := .long, accessFlags := 26, slot := 5, constantValue := 0 }, { name := "negativeZeroDoubleBits", type := .long, accessFlags := 26, slot := 6, constantValue := 0 }, { name := "twoToTheDoubleScaleUp", type := .double, accessFlags := 8, slot := 7, constantValue := 0 }, { name := "twoToTheDoubleScaleDown", type := .double, accessFlags := 8, slot := 8, constantValue := 0 }, { name := "$assertionsDisabled", type := .boolean, accessFlags := 4120, slot := 9, constantValue := 0 }]
  methods := #[k2m0, k2m1, k2m2]
  instanceTypes := #[]
  staticTypes := #[.double, .double, .double, .double, .double, .long, .long, .double, .double, .boolean]
  resolved := Array.replicate 460 none
  statics := none }

def pool3 : Array CpInfo := pool [(1, .methodref 2 3), (0, .class_ 4), (0, .nameAndType 5 6), (0, u "java/lang/Object"), (0, u "<init>"), (0, u "()V"), (0, .class_ 8), (0, u "com/example/hornstone/hornstone/read/Position"), (0, .fieldref 7 10), (0, .nameAndType 11 12), (0, u "lines"), (0, u "[I"), (0, .fieldref 7 14), (0, .nameAndType 15 12), (0, u "columns"), (0, .fieldref 7 17), (0, .nameAndType 18 19), (0, u "breaks"), (0, u "[B"), (0, .fieldref 7 21), (0, .nameAndType 22 23), (0, u "line"), (0, u "I"), (0, .fieldref 7 25), (0, .nameAndType 26 27), (0, u "lastBreak"), (0, u "B"), (0, .fieldref 7 29), (0, .nameAndType 30 23), (0, u "newest"), (0, .fieldref 7 32), (0, .nameAndType 33 23), (0, u "column"), (0, .fieldref 7 35), (0, .nameAndType 36 23), (0, u "kept"), (0, .methodref 38 39), (0, .class_ 40), (0, .nameAndType 41 42), (0, u "java/lang/Math"), (0, u "min"), (0, u "(II)I"), (0, .class_ 44), (0, u "java/lang/Character"), (0, .integer 65535), (0, .methodref 43 47), (0, .nameAndType 48 49), (0, u "isLowSurrogate"), (0, u "(C)Z"), (0, .methodref 38 51), (0, .nameAndType 52 42), (0, u "max"), (0, .methodref 7 54), (0, .nameAndType 55 56), (0, u "advance"), (0, u "(I)V"), (1, u "MOST_STEPS_BACK"), (2, u "NO_BREAK"), (1, u "LINE_FEED"), (1, u "CARRIAGE_RETURN"), (4, u "([CII)V"), (2, u "stepBack"), (0, u "()I"), (0, u "nextLine")] 3

def k3c0 : Code := { maxStack := 2, maxLocals := 1, code := prog_103_method_1_code, exceptionTable := #[], attributes := #[] }
def k3m0 : Method := { name := "<init>", desc := "()V", sig := { parameters := [], returnType := none }, accessFlags := 0, code := some k3c0 }
def k3c1 : Code := { maxStack := 3, maxLocals := 4, code := prog_103_method_2_code, exceptionTable := #[], attributes := #[] }
def k3m1 : Method := { name := "advance", desc := "(I)V", sig := { parameters := [.int], returnType := none }, accessFlags := 0, code := some k3c1 }
def k3c2 : Code := { maxStack := 3, maxLocals := 7, code := prog_103_method_3_code, exceptionTable := #[], attributes := #[] }
def k3m2 : Method := { name := "advance", desc := "([CII)V", sig := { parameters := [(.array .char), .int, .int], returnType := none }, accessFlags := 0, code := some k3c2 }
def k3c3 : Code := { maxStack := 3, maxLocals := 1, code := prog_103_method_5_code, exceptionTable := #[], attributes := #[] }
def k3m3 : Method := { name := "stepBack", desc := "()V", sig := { parameters := [], returnType := none }, accessFlags := 0, code := some k3c3 }
def k3c4 : Code := { maxStack := 1, maxLocals := 1, code := prog_103_method_6_code, exceptionTable := #[], attributes := #[] }
def k3m4 : Method := { name := "line", desc := "()I", sig := { parameters := [], returnType := some .int }, accessFlags := 0, code := some k3c4 }
def k3c5 : Code := { maxStack := 1, maxLocals := 1, code := prog_103_method_7_code, exceptionTable := #[], attributes := #[] }
def k3m5 : Method := { name := "column", desc := "()I", sig := { parameters := [], returnType := some .int }, accessFlags := 0, code := some k3c5 }
def k3c6 : Code := { maxStack := 2, maxLocals := 1, code := prog_103_method_8_code, exceptionTable := #[], attributes := #[] }
def k3m6 : Method := { name := "nextLine", desc := "()I", sig := { parameters := [], returnType := some .int }, accessFlags := 0, code := some k3c6 }
/-- com/example/hornstone/hornstone/read/Position -/
def k3 : Class := { plain "com/example/hornstone/hornstone/read/Position" (some 0) with
  accessFlags := 48
  interfaces := #[]
  cf := some (fileOf pool3 7 #[] #[{ accessFlags := 0, nameIndex := 5, descriptorIndex := 6, attributes := #[] }, { accessFlags := 0, nameIndex := 55, descriptorIndex := 56, attributes := #[] }, { accessFlags := 0, nameIndex := 55, descriptorIndex := 70, attributes := #[] }, { accessFlags := 0, nameIndex := 73, descriptorIndex := 6, attributes := #[] }, { accessFlags := 0, nameIndex := 22, descriptorIndex := 74, attributes := #[] }, { accessFlags := 0, nameIndex := 33, descriptorIndex := 74, attributes := #[] }, { accessFlags := 0, nameIndex := 75, descriptorIndex := 74, attributes := #[] }] 48 2 #[] #[{ accessFlags := 24, nameIndex := 58, descriptorIndex := 23, attributes := #[] }, { accessFlags := 26, nameIndex := 61, descriptorIndex := 27, attributes := #[] }, { accessFlags := 26, nameIndex := 63, descriptorIndex := 27, attributes := #[] }, { accessFlags := 26, nameIndex := 65, descriptorIndex := 27, attributes := #[] }, { accessFlags := 18, nameIndex := 11, descriptorIndex := 12, attributes := #[] }, { accessFlags := 18, nameIndex := 15, descriptorIndex := 12, attributes := #[] }, { accessFlags := 18, nameIndex := 18, descriptorIndex := 19, attributes := #[] }, { accessFlags := 2, nameIndex := 30, descriptorIndex := 23, attributes := #[] }, { accessFlags := 2, nameIndex := 36, descriptorIndex := 23, attributes := #[] }, { accessFlags := 2, nameIndex := 22, descriptorIndex := 23, attributes := #[] }, { accessFlags := 2, nameIndex := 33, descriptorIndex := 23, attributes := #[] }, { accessFlags := 2, nameIndex := 26, descriptorIndex := 27, attributes := #[] }])
  fields := #[{ name := "MOST_STEPS_BACK", type := .int, accessFlags := 24, slot := 0, constantValue := 0 }, { name := "NO_BREAK", type := .byte, accessFlags := 26, slot := 1, constantValue := 0 }, { name := "LINE_FEED", type := .byte, accessFlags := 26, slot := 2, constantValue := 0 }, { name := "CARRIAGE_RETURN", type := .byte, accessFlags := 26, slot := 3, constantValue := 0 }, { name := "lines", type := (.array .int), accessFlags := 18, slot := 0, constantValue := 0 }, { name := "columns", type := (.array .int), accessFlags := 18, slot := 1, constantValue := 0 }, { name := "breaks", type := (.array .byte), accessFlags := 18, slot := 2, constantValue := 0 }, { name := "newest", type := .int, accessFlags := 2, slot := 3, constantValue := 0 }, { name := "kept", type := .int, accessFlags := 2, slot := 4, constantValue := 0 }, { name := "line", type := .int, accessFlags := 2, slot := 5, constantValue := 0 }, { name := "column", type := .int, accessFlags := 2, slot := 6, constantValue := 0 }, { name := "lastBreak", type := .byte, accessFlags := 2, slot := 7, constantValue := 0 }]
  methods := #[k3m0, k3m1, k3m2, k3m3, k3m4, k3m5, k3m6]
  instanceTypes := #[(.array .int), (.array .int), (.array .byte), .int, .int, .int, .int, .byte]
  staticTypes := #[.int, .byte, .byte, .byte]
  resolved := Array.replicate 79 none
  statics := none }

def pool4 : Array CpInfo := pool [(1, .class_ 2), (0, u "java/io/Serializable"), (0, .class_ 4), (0, u "java/lang/Object")] 2

/-- java/io/Serializable -/
def k4 : Class := { plain "java/io/Serializable" (some 0) with
  accessFlags := 1537
  interfaces := #[]
  cf := some (fileOf pool4 1 #[] #[] 1537 3 #[] #[])
  fields := #[]
  methods := #[]
  instanceTypes := #[]
  staticTypes := #[]
  resolved := Array.replicate 7 none
  statics := none }

def pool5 : Array CpInfo := pool [(1, .class_ 2), (0, u "java/lang/Comparable"), (0, .class_ 4), (0, u "java/lang/Object")] 7

/-- java/lang/Comparable -/
def k5 : Class := { plain "java/lang/Comparable" (some 0) with
  accessFlags := 1537
  interfaces := #[]
  cf := some (fileOf pool5 1 #[] #[] 1537 3 #[] #[])
  fields := #[]
  methods := #[]
  instanceTypes := #[]
  staticTypes := #[]
  resolved := Array.replicate 12 none
  statics := none }

def pool6 : Array CpInfo := pool [(1, .class_ 2), (0, u "java/lang/constant/Constable"), (0, .class_ 4), (0, u "java/lang/Object")] 6

/-- java/lang/constant/Constable -/
def k6 : Class := { plain "java/lang/constant/Constable" (some 0) with
  accessFlags := 1537
  interfaces := #[]
  cf := some (fileOf pool6 1 #[] #[] 1537 3 #[] #[])
  fields := #[]
  methods := #[]
  instanceTypes := #[]
  staticTypes := #[]
  resolved := Array.replicate 11 none
  statics := none }

def pool7 : Array CpInfo := pool [(1, .class_ 2), (0, u "java/lang/Character"), (18, u "value"), (0, u "C"), (19, .class_ 44), (1, u "java/lang/Object"), (3, .class_ 50), (1, u "java/lang/Character$CharacterCache"), (25, .integer 56320), (0, .integer 57344), (3, u "(C)Z"), (2, u "isLowSurrogate"), (199, u "$assertionsDisabled"), (0, u "Z"), (21, .class_ 309), (1, u "java/lang/Character$UnicodeBlock"), (73, u "TYPE"), (0, u "Ljava/lang/Class;"), (0, .class_ 386), (0, u "java/io/Serializable"), (0, .class_ 388), (0, u "java/lang/Comparable"), (0, .class_ 390), (0, u "java/lang/constant/Constable"), (0, u "MIN_RADIX"), (0, u "I"), (2, u "MAX_RADIX"), (1, u "MIN_VALUE"), (1, u "MAX_VALUE"), (3, u "UNASSIGNED"), (0, u "B"), (0, u "UPPERCASE_LETTER"), (1, u "LOWERCASE_LETTER"), (0, u "TITLECASE_LETTER"), (1, u "MODIFIER_LETTER"), (1, u "OTHER_LETTER"), (1, u "NON_SPACING_MARK"), (1, u "ENCLOSING_MARK"), (1, u "COMBINING_SPACING_MARK"), (1, u "DECIMAL_DIGIT_NUMBER"), (1, u "LETTER_NUMBER"), (1, u "OTHER_NUMBER"), (1, u "SPACE_SEPARATOR"), (1, u "LINE_SEPARATOR"), (1, u "PARAGRAPH_SEPARATOR"), (1, u "CONTROL"), (1, u "FORMAT"), (1, u "PRIVATE_USE"), (1, u "SURROGATE"), (1, u "DASH_PUNCTUATION"), (1, u "START_PUNCTUATION"), (1, u "END_PUNCTUATION"), (1, u "CONNECTOR_PUNCTUATION"), (1, u "OTHER_PUNCTUATION"), (1, u "MATH_SYMBOL"), (1, u "CURRENCY_SYMBOL"), (1, u "MODIFIER_SYMBOL"), (1, u "OTHER_SYMBOL"), (1, u "INITIAL_QUOTE_PUNCTUATION"), (1, u "FINAL_QUOTE_PUNCTUATION"), (1, u "ERROR"), (1, u "DIRECTIONALITY_UNDEFINED"), (0, u "DIRECTIONALITY_LEFT_TO_RIGHT"), (0, u "DIRECTIONALITY_RIGHT_TO_LEFT"), (0, u "DIRECTIONALITY_RIGHT_TO_LEFT_ARABIC"), (0, u "DIRECTIONALITY_EUROPEAN_NUMBER"), (0, u "DIRECTIONALITY_EUROPEAN_NUMBER_SEPARATOR"), (0, u "DIRECTIONALITY_EUROPEAN_NUMBER_TERMINATOR"), (0, u "DIRECTIONALITY_ARABIC_NUMBER"), (0, u "DIRECTIONALITY_COMMON_NUMBER_SEPARATOR"), (0, u "DIRECTIONALITY_NONSPACING_MARK"), (0, u "DIRECTIONALITY_BOUNDARY_NEUTRAL"), (0, u "DIRECTIONALITY_PARAGRAPH_SEPARATOR"), (0, u "DIRECTIONALITY_SEGMENT_SEPARATOR"), (0, u "DIRECTIONALITY_WHITESPACE"), (0, u "DIRECTIONALITY_OTHER_NEUTRALS"), (0, u "DIRECTIONALITY_LEFT_TO_RIGHT_EMBEDDING"), (0, u "DIRECTIONALITY_LEFT_TO_RIGHT_OVERRIDE"), (0, u "DIRECTIONALITY_RIGHT_TO_LEFT_EMBEDDING"), (0, u "DIRECTIONALITY_RIGHT_TO_LEFT_OVERRIDE"), (1, u "DIRECTIONALITY_POP_DIRECTIONAL_FORMAT"), (0, u "DIRECTIONALITY_LEFT_TO_RIGHT_ISOLATE"), (0, u "DIRECTIONALITY_RIGHT_TO_LEFT_ISOLATE"), (0, u "DIRECTIONALITY_FIRST_STRONG_ISOLATE"), (0, u "DIRECTIONALITY_POP_DIRECTIONAL_ISOLATE"), (0, u "MIN_HIGH_SURROGATE"), (0, u "MAX_HIGH_SURROGATE"), (1, u "MIN_LOW_SURROGATE"), (0, u "MAX_LOW_SURROGATE"), (1, u "MIN_SURROGATE"), (0, u "MAX_SURROGATE"), (0, u "MIN_SUPPLEMENTARY_CODE_POINT"), (0, u "MIN_CODE_POINT"), (0, u "MAX_CODE_POINT"), (1, u "serialVersionUID"), (0, u "J"), (2, u "SIZE"), (0, u "BYTES"), (88, .class_ 596), (0, u "java/lang/Character$UnicodeScript"), (0, .class_ 598), (0, u "java/lang/Character$Subset")] 5

def k7c0 : Code := { maxStack := 2, maxLocals := 1, code := jdk_89_method_15_code, exceptionTable := #[], attributes := #[] }
def k7m0 : Method := { name := "isLowSurrogate", desc := "(C)Z", sig := { parameters := [.char], returnType := some .boolean }, accessFlags := 9, code := some k7c0 }
/-- java/lang/Character -/
def k7 : Class := { plain "java/lang/Character" (some 0) with
  accessFlags := 49
  interfaces := #[4, 5, 6]
  cf := some (fileOf pool7 1 #[.nestMembers #[48, 595, 307, 597]] #[{ accessFlags := 9, nameIndex := 84, descriptorIndex := 81, attributes := #[] }] 49 42 #[385, 387, 389] #[{ accessFlags := 25, nameIndex := 391, descriptorIndex := 392, attributes := #[] }, { accessFlags := 25, nameIndex := 395, descriptorIndex := 392, attributes := #[] }, { accessFlags := 25, nameIndex := 397, descriptorIndex := 22, attributes := #[] }, { accessFlags := 25, nameIndex := 399, descriptorIndex := 22, attributes := #[] }, { accessFlags := 25, nameIndex := 383, descriptorIndex := 384, attributes := #[] }, { accessFlags := 25, nameIndex := 403, descriptorIndex := 404, attributes := #[] }, { accessFlags := 25, nameIndex := 405, descriptorIndex := 404, attributes := #[] }, { accessFlags := 25, nameIndex := 407, descriptorIndex := 404, attributes := #[] }, { accessFlags := 25, nameIndex := 408, descriptorIndex := 404, attributes := #[] }, { accessFlags := 25, nameIndex := 410, descriptorIndex := 404, attributes := #[] }, { accessFlags := 25, nameIndex := 412, descriptorIndex := 404, attributes := #[] }, { accessFlags := 25, nameIndex := 414, descriptorIndex := 404, attributes := #[] }, { accessFlags := 25, nameIndex := 416, descriptorIndex := 404, attributes := #[] }, { accessFlags := 25, nameIndex := 418, descriptorIndex := 404, attributes := #[] }, { accessFlags := 25, nameIndex := 420, descriptorIndex := 404, attributes := #[] }, { accessFlags := 25, nameIndex := 422, descriptorIndex := 404, attributes := #[] }, { accessFlags := 25, nameIndex := 424, descriptorIndex := 404, attributes := #[] }, { accessFlags := 25, nameIndex := 426, descriptorIndex := 404, attributes := #[] }, { accessFlags := 25, nameIndex := 428, descriptorIndex := 404, attributes := #[] }, { accessFlags := 25, nameIndex := 430, descriptorIndex := 404, attributes := #[] }, { accessFlags := 25, nameIndex := 432, descriptorIndex := 404, attributes := #[] }, { accessFlags := 25, nameIndex := 434, descriptorIndex := 404, attributes := #[] }, { accessFlags := 25, nameIndex := 436, descriptorIndex := 404, attributes := #[] }, { accessFlags := 25, nameIndex := 438, descriptorIndex := 404, attributes := #[] }, { accessFlags := 25, nameIndex := 440, descriptorIndex := 404, attributes := #[] }, { accessFlags := 25, nameIndex := 442, descriptorIndex := 404, attributes := #[] }, { accessFlags := 25, nameIndex := 444, descriptorIndex := 404, attributes := #[] }, { accessFlags := 25, nameIndex := 446, descriptorIndex := 404, attributes := #[] }, { accessFlags := 25, nameIndex := 448, descriptorIndex := 404, attributes := #[] }, { accessFlags := 25, nameIndex := 450, descriptorIndex := 404, attributes := #[] }, { accessFlags := 25, nameIndex := 452, descriptorIndex := 404, attributes := #[] }, { accessFlags := 25, nameIndex := 454, descriptorIndex := 404, attributes := #[] }, { accessFlags := 25, nameIndex := 456, descriptorIndex := 404, attributes := #[] }, { accessFlags := 25, nameIndex := 458, descriptorIndex := 404, attributes := #[] }, { accessFlags := 25, nameIndex := 460, descriptorIndex := 404, attributes := #[] }, { accessFlags := 24, nameIndex := 462, descriptorIndex := 392, attributes := #[] }, { accessFlags := 25, nameIndex := 464, descriptorIndex := 404, attributes := #[] }, { accessFlags := 25, nameIndex := 465, descriptorIndex := 404, attributes := #[] }, { accessFlags := 25, nameIndex := 466, descriptorIndex := 404, attributes := #[] }, { accessFlags := 25, nameIndex := 467, descriptorIndex := 404, attributes := #[] }, { accessFlags := 25, nameIndex := 468, descriptorIndex := 404, attributes := #[] }, { accessFlags := 25, nameIndex := 469, descriptorIndex := 404, attributes := #[] }, { accessFlags := 25, nameIndex := 470, descriptorIndex := 404, attributes := #[] }, { accessFlags := 25, nameIndex := 471, descriptorIndex := 404, attributes := #[] }, { accessFlags := 25, nameIndex := 472, descriptorIndex := 404, attributes := #[] }, { accessFlags := 25, nameIndex := 473, descriptorIndex := 404, attributes := #[] }, { accessFlags := 25, nameIndex := 474, descriptorIndex := 404, attributes := #[] }, { accessFlags := 25, nameIndex := 475, descriptorIndex := 404, attributes := #[] }, { accessFlags := 25, nameIndex := 476, descriptorIndex := 404, attributes := #[] }, { accessFlags := 25, nameIndex := 477, descriptorIndex := 404, attributes := #[] }, { accessFlags := 25, nameIndex := 478, descriptorIndex := 404, attributes := #[] }, { accessFlags := 25, nameIndex := 479, descriptorIndex := 404, attributes := #[] }, { accessFlags := 25, nameIndex := 480, descriptorIndex := 404, attributes := #[] }, { accessFlags := 25, nameIndex := 481, descriptorIndex := 404, attributes := #[] }, { accessFlags := 25, nameIndex := 482, descriptorIndex := 404, attributes := #[] }, { accessFlags := 25, nameIndex := 484, descriptorIndex := 404, attributes := #[] }, { accessFlags := 25, nameIndex := 485, descriptorIndex := 404, attributes := #[] }, { accessFlags := 25, nameIndex := 486, descriptorIndex := 404, attributes := #[] }, { accessFlags := 25, nameIndex := 487, descriptorIndex := 404, attributes := #[] }, { accessFlags := 25, nameIndex := 488, descriptorIndex := 404, attributes := #[] }, { accessFlags := 25, nameIndex := 489, descriptorIndex := 22, attributes := #[] }, { accessFlags := 25, nameIndex := 490, descriptorIndex := 22, attributes := #[] }, { accessFlags := 25, nameIndex := 492, descriptorIndex := 22, attributes := #[] }, { accessFlags := 25, nameIndex := 493, descriptorIndex := 22, attributes := #[] }, { accessFlags := 25, nameIndex := 495, descriptorIndex := 22, attributes := #[] }, { accessFlags := 25, nameIndex := 496, descriptorIndex := 22, attributes := #[] }, { accessFlags := 25, nameIndex := 497, descriptorIndex := 392, attributes := #[] }, { accessFlags := 25, nameIndex := 498, descriptorIndex := 392, attributes := #[] }, { accessFlags := 25, nameIndex := 499, descriptorIndex := 392, attributes := #[] }, { accessFlags := 18, nameIndex := 21, descriptorIndex := 22, attributes := #[] }, { accessFlags := 26, nameIndex := 501, descriptorIndex := 502, attributes := #[] }, { accessFlags := 25, nameIndex := 505, descriptorIndex := 392, attributes := #[] }, { accessFlags := 25, nameIndex := 506, descriptorIndex := 392, attributes := #[] }, { accessFlags := 4120, nameIndex := 284, descriptorIndex := 285, attributes := #[] }])
  fields := #[{ name := "MIN_RADIX", type := .int, accessFlags := 25, slot := 0, constantValue := 0 }, { name := "MAX_RADIX", type := .int, accessFlags := 25, slot := 1, constantValue := 0 }, { name := "MIN_VALUE", type := .char, accessFlags := 25, slot := 2, constantValue := 0 }, { name := "MAX_VALUE", type := .char, accessFlags := 25, slot := 3, constantValue := 0 }, { name := "TYPE", type := (.object "java/lang/Class"), accessFlags := 25, slot := 4, constantValue := 0 }, { name := "UNASSIGNED", type := .byte, accessFlags := 25, slot := 5, constantValue := 0 }, { name := "UPPERCASE_LETTER", type := .byte, accessFlags := 25, slot := 6, constantValue := 0 }, { name := "LOWERCASE_LETTER", type := .byte, accessFlags := 25, slot := 7, constantValue := 0 }, { name := "TITLECASE_LETTER", type := .byte, accessFlags := 25, slot := 8, constantValue := 0 }, { name := "MODIFIER_LETTER", type := .byte, accessFlags := 25, slot := 9, constantValue := 0 }, { name := "OTHER_LETTER", type := .byte, accessFlags := 25, slot := 10, constantValue := 0 }, { name := "NON_SPACING_MARK", type := .byte, accessFlags := 25, slot := 11, constantValue := 0 }, { name := "ENCLOSING_MARK", type := .byte, accessFlags := 25, slot := 12, constantValue := 0 }, { name := "COMBINING_SPACING_MARK", type := .byte, accessFlags := 25, slot := 13, constantValue := 0 }, { name := "DECIMAL_DIGIT_NUMBER", type := .byte, accessFlags := 25, slot := 14, constantValue := 0 }, { name := "LETTER_NUMBER", type := .byte, accessFlags := 25, slot := 15, constantValue := 0 }, { name := "OTHER_NUMBER", type := .byte, accessFlags := 25, slot := 16, constantValue := 0 }, { name := "SPACE_SEPARATOR", type := .byte, accessFlags := 25, slot := 17, constantValue := 0 }, { name := "LINE_SEPARATOR", type := .byte, accessFlags := 25, slot := 18, constantValue := 0 }, { name := "PARAGRAPH_SEPARATOR", type := .byte, accessFlags := 25, slot := 19, constantValue := 0 }, { name := "CONTROL", type := .byte, accessFlags := 25, slot := 20, constantValue := 0 }, { name := "FORMAT", type := .byte, accessFlags := 25, slot := 21, constantValue := 0 }, { name := "PRIVATE_USE", type := .byte, accessFlags := 25, slot := 22, constantValue := 0 }, { name := "SURROGATE", type := .byte, accessFlags := 25, slot := 23, constantValue := 0 }, { name := "DASH_PUNCTUATION", type := .byte, accessFlags := 25, slot := 24, constantValue := 0 }, { name := "START_PUNCTUATION", type := .byte, accessFlags := 25, slot := 25, constantValue := 0 }, { name := "END_PUNCTUATION", type := .byte, accessFlags := 25, slot := 26, constantValue := 0 }, { name := "CONNECTOR_PUNCTUATION", type := .byte, accessFlags := 25, slot := 27, constantValue := 0 }, { name := "OTHER_PUNCTUATION", type := .byte, accessFlags := 25, slot := 28, constantValue := 0 }, { name := "MATH_SYMBOL", type := .byte, accessFlags := 25, slot := 29, constantValue := 0 }, { name := "CURRENCY_SYMBOL", type := .byte, accessFlags := 25, slot := 30, constantValue := 0 }, { name := "MODIFIER_SYMBOL", type := .byte, accessFlags := 25, slot := 31, constantValue := 0 }, { name := "OTHER_SYMBOL", type := .byte, accessFlags := 25, slot := 32, constantValue := 0 }, { name := "INITIAL_QUOTE_PUNCTUATION", type := .byte, accessFlags := 25, slot := 33, constantValue := 0 }, { name := "FINAL_QUOTE_PUNCTUATION", type := .byte, accessFlags := 25, slot := 34, constantValue := 0 }, { name := "ERROR", type := .int, accessFlags := 24, slot := 35, constantValue := 0 }, { name := "DIRECTIONALITY_UNDEFINED", type := .byte, accessFlags := 25, slot := 36, constantValue := 0 }, { name := "DIRECTIONALITY_LEFT_TO_RIGHT", type := .byte, accessFlags := 25, slot := 37, constantValue := 0 }, { name := "DIRECTIONALITY_RIGHT_TO_LEFT", type := .byte, accessFlags := 25, slot := 38, constantValue := 0 }, { name := "DIRECTIONALITY_RIGHT_TO_LEFT_ARABIC", type := .byte, accessFlags := 25, slot := 39, constantValue := 0 }, { name := "DIRECTIONALITY_EUROPEAN_NUMBER", type := .byte, accessFlags := 25, slot := 40, constantValue := 0 }, { name := "DIRECTIONALITY_EUROPEAN_NUMBER_SEPARATOR", type := .byte, accessFlags := 25, slot := 41, constantValue := 0 }, { name := "DIRECTIONALITY_EUROPEAN_NUMBER_TERMINATOR", type := .byte, accessFlags := 25, slot := 42, constantValue := 0 }, { name := "DIRECTIONALITY_ARABIC_NUMBER", type := .byte, accessFlags := 25, slot := 43, constantValue := 0 }, { name := "DIRECTIONALITY_COMMON_NUMBER_SEPARATOR", type := .byte, accessFlags := 25, slot := 44, constantValue := 0 }, { name := "DIRECTIONALITY_NONSPACING_MARK", type := .byte, accessFlags := 25, slot := 45, constantValue := 0 }, { name := "DIRECTIONALITY_BOUNDARY_NEUTRAL", type := .byte, accessFlags := 25, slot := 46, constantValue := 0 }, { name := "DIRECTIONALITY_PARAGRAPH_SEPARATOR", type := .byte, accessFlags := 25, slot := 47, constantValue := 0 }, { name := "DIRECTIONALITY_SEGMENT_SEPARATOR", type := .byte, accessFlags := 25, slot := 48, constantValue := 0 }, { name := "DIRECTIONALITY_WHITESPACE", type := .byte, accessFlags := 25, slot := 49, constantValue := 0 }, { name := "DIRECTIONALITY_OTHER_NEUTRALS", type := .byte, accessFlags := 25, slot := 50, constantValue := 0 }, { name := "DIRECTIONALITY_LEFT_TO_RIGHT_EMBEDDING", type := .byte, accessFlags := 25, slot := 51, constantValue := 0 }, { name := "DIRECTIONALITY_LEFT_TO_RIGHT_OVERRIDE", type := .byte, accessFlags := 25, slot := 52, constantValue := 0 }, { name := "DIRECTIONALITY_RIGHT_TO_LEFT_EMBEDDING", type := .byte, accessFlags := 25, slot := 53, constantValue := 0 }, { name := "DIRECTIONALITY_RIGHT_TO_LEFT_OVERRIDE", type := .byte, accessFlags := 25, slot := 54, constantValue := 0 }, { name := "DIRECTIONALITY_POP_DIRECTIONAL_FORMAT", type := .byte, accessFlags := 25, slot := 55, constantValue := 0 }, { name := "DIRECTIONALITY_LEFT_TO_RIGHT_ISOLATE", type := .byte, accessFlags := 25, slot := 56, constantValue := 0 }, { name := "DIRECTIONALITY_RIGHT_TO_LEFT_ISOLATE", type := .byte, accessFlags := 25, slot := 57, constantValue := 0 }, { name := "DIRECTIONALITY_FIRST_STRONG_ISOLATE", type := .byte, accessFlags := 25, slot := 58, constantValue := 0 }, { name := "DIRECTIONALITY_POP_DIRECTIONAL_ISOLATE", type := .byte, accessFlags := 25, slot := 59, constantValue := 0 }, { name := "MIN_HIGH_SURROGATE", type := .char, accessFlags := 25, slot := 60, constantValue := 0 }, { name := "MAX_HIGH_SURROGATE", type := .char, accessFlags := 25, slot := 61, constantValue := 0 }, { name := "MIN_LOW_SURROGATE", type := .char, accessFlags := 25, slot := 62, constantValue := 0 }, { name := "MAX_LOW_SURROGATE", type := .char, accessFlags := 25, slot := 63, constantValue := 0 }, { name := "MIN_SURROGATE", type := .char, accessFlags := 25, slot := 64, constantValue := 0 }, { name := "MAX_SURROGATE", type := .char, accessFlags := 25, slot := 65, constantValue := 0 }, { name := "MIN_SUPPLEMENTARY_CODE_POINT", type := .int, accessFlags := 25, slot := 66, constantValue := 0 }, { name := "MIN_CODE_POINT", type := .int, accessFlags := 25, slot := 67, constantValue := 0 }, { name := "MAX_CODE_POINT", type := .int, accessFlags := 25, slot := 68, constantValue := 0 }, { name := "value", type := .char, accessFlags := 18, slot := 0, constantValue := 0 }, { name := "serialVersionUID", type := .long, accessFlags := 26, slot := 69, constantValue := 0 }, { name := "SIZE", type := .int, accessFlags := 25, slot := 70, constantValue := 0 }, { name := "BYTES", type := .int, accessFlags := 25, slot := 71, constantValue := 0 }, { name := "$assertionsDisabled", type := .boolean, accessFlags := 4120, slot := 72, constantValue := 0 }]
  methods := #[k7m0]
  instanceTypes := #[.char]
  staticTypes := #[.int, .int, .char, .char, (.object "java/lang/Class"), .byte, .byte, .byte, .byte, .byte, .byte, .byte, .byte, .byte, .byte, .byte, .byte, .byte, .byte, .byte, .byte, .byte, .byte, .byte, .byte, .byte, .byte, .byte, .byte, .byte, .byte, .byte, .byte, .byte, .byte, .int, .byte, .byte, .byte, .byte, .byte, .byte, .byte, .byte, .byte, .byte, .byte, .byte, .byte, .byte, .byte, .byte, .byte, .byte, .byte, .byte, .byte, .byte, .byte, .byte, .char, .char, .char, .char, .char, .char, .int, .int, .int, .long, .int, .int, .boolean]
  resolved := Array.replicate 604 none
  statics := none }

def pool8 : Array CpInfo := pool [(1, u "java/lang/Cloneable"), (0, .class_ 1), (0, u "java/lang/Object"), (0, .class_ 3)] 3

/-- java/lang/Cloneable -/
def k8 : Class := { plain "java/lang/Cloneable" (some 0) with
  accessFlags := 1537
  interfaces := #[]
  cf := some (fileOf pool8 2 #[] #[] 1537 4 #[] #[])
  fields := #[]
  methods := #[]
  instanceTypes := #[]
  staticTypes := #[]
  resolved := Array.replicate 8 none
  statics := none }

/-- the primitive byte -/
def k9 : Class := { plain "byte" none with kind := .primitive 'B', accessFlags := 0x411 }
/-- [B -/
def k10 : Class := { plain "[B" (some 0) with kind := .array 9 .byte, interfaces := #[8, 4], accessFlags := 1041 }

/-- the primitive char -/
def k11 : Class := { plain "char" none with kind := .primitive 'C', accessFlags := 0x411 }
/-- [C -/
def k12 : Class := { plain "[C" (some 0) with kind := .array 11 .char, interfaces := #[8, 4], accessFlags := 1041 }

/-- the primitive int -/
def k13 : Class := { plain "int" none with kind := .primitive 'I', accessFlags := 0x411 }
/-- [I -/
def k14 : Class := { plain "[I" (some 0) with kind := .array 13 .int, interfaces := #[8, 4], accessFlags := 1041 }

def heap : Heap := #[]
def classes : Array Class := #[k0, k1, k2, k3, k4, k5, k6, k7, k8, k9, k10, k11, k12, k13, k14]
def interned : List (Array UInt16 × Addr) := []
def slotsUsed : Nat := 0
def theMethod : MethodId := ⟨1, 2⟩
def args0 : Array Value := #[.long 5, .long 3, .long 2, .int 1, .int 4]
def aboutOver (below : List Frame) : State where
  vm := { classes := classes, interned := interned.toArray }
  heap := heap
  slotsUsed := slotsUsed
  threads := #[{ frames := .invoking theMethod args0 :: below }]
def below0 : List Frame := [.native { method := ⟨0, 0⟩, args := #[] }]
def about1 : State := aboutOver below0
def p0 : Program := .bare "" "" ""
def e0 : Env := launch0.env 0 0 0
theorem w_frames : about1.frames = Frame.invoking theMethod args0 :: below0 := rfl
set_option maxRecDepth 65536 in
theorem w_args : argsFit about1.vm theMethod args0 = true := by decide +kernel
set_option maxRecDepth 65536 in
theorem w_heap : heapFits about1 = true := by decide +kernel
set_option maxRecDepth 65536 in
theorem w_runnable : about1.curStatus? = some .runnable := by decide +kernel
set_option maxRecDepth 65536 in
theorem w_alone : about1.alone = true := by decide +kernel
set_option maxRecDepth 65536 in
theorem w_named : about1.methodNamed? x = some theMethod := by decide +kernel
set_option maxRecDepth 65536 in
theorem w_hears : about1.hears theMethod below0 = true := by decide +kernel
set_option maxRecDepth 65536 in
theorem w_ripe : about1.ripe theMethod args0 below0 = true := by decide +kernel
theorem w_running : about1.status = .running := rfl
set_option maxRecDepth 65536 in
theorem w_room : about1.hasRoom e0.platform room_1 = true :=
  launch0.hasRoom_least _ room_1 (by decide +kernel) (by decide +kernel) (by decide +kernel) (by decide +kernel) (by decide +kernel) (by decide +kernel)
theorem allAtoms_all (ts : List Jvm.Cond) (a : Array Jvm.Value) (st : Jvm.State) : (allAtoms ts).before a st = ts.all (fun c => c.before a st) := by
  induction ts with
  | nil => rfl
  | cons c t ih =>
    show (Jvm.Cond.and c (allAtoms t)).before a st = _
    rw [Jvm.Cond.before_and, ih, List.all_cons]
def words1 : List Jvm.Cond := Jvm.Cond.code x code maxLocals ret :: tables_1
/-- a 'code' word, met by the world's own term for the bytes: nothing is compared byte by byte -/
theorem code_word {y : MethodName} {bytes : ByteArray} {mx : Nat} {rt : Option FieldType} {a : Array Value} {s : State} {m : MethodId} {meth : Method} {c : Code} (h1 : s.methodNamed? y = some m) (h2 : s.vm.method? m = some meth) (h3 : meth.code = some c) (h4 : c.code = bytes)
    (h5 : (c.maxLocals == mx && c.exceptionTable.isEmpty && decide (c.maxStack ≤ mostOperands) && decide (meth.sig.returnType = rt) && !meth.locks && decide (parseMethodDescriptor y.desc = some meth.sig)) = true) : (Jvm.Cond.code y bytes mx rt).before a s = true := by
  simp only [Bool.and_eq_true, beq_iff_eq, Bool.not_eq_true', decide_eq_true_eq] at h5
  obtain ⟨⟨⟨⟨⟨g1, g2⟩, g3⟩, g4⟩, g5⟩, g6⟩ := h5
  simp [Cond.before, Cond.holds, Cond.value, h1, h2, h3, h4, g1, g2, g3, g4, g5, g6]
def isCode : Jvm.Cond → Bool
  | .code _ _ _ _ => true
  | _ => false
theorem all_split {L : List Jvm.Cond} {P : Jvm.Cond → Bool} (h1 : L.all (fun c => isCode c || P c) = true) (h2 : ∀ c ∈ L.filter isCode, P c = true) : L.all P = true := by
  refine List.all_eq_true.mpr fun c hc => ?_
  have h := List.all_eq_true.mp h1 c hc
  rcases Bool.eq_false_or_eq_true (isCode c) with hi | hi
  · exact h2 c (List.mem_filter.mpr ⟨hc, hi⟩)
  · simpa [hi] using h
set_option maxRecDepth 65536 in
theorem w_c0 : (Jvm.Cond.code x code maxLocals ret).before args0 about1 = true := code_word (m := ⟨1, 2⟩) (meth := k1m2) (c := k1c2) (by decide +kernel) rfl rfl rfl (by decide +kernel)
set_option maxRecDepth 65536 in
theorem w_c1 : (Jvm.Cond.code ({ cls := "com/example/hornstone/hornstone/read/PositionStepBackPinLaw", name := "pick", desc := "(JIJI)C" } : Jvm.MethodName) method_2_code (8 : Nat) (Option.some Jvm.ClassFile.FieldType.char)).before args0 about1 = true := code_word (m := ⟨1, 1⟩) (meth := k1m1) (c := k1c1) (by decide +kernel) rfl rfl rfl (by decide +kernel)
set_option maxRecDepth 65536 in
theorem w_c2 : (Jvm.Cond.code ({ cls := "java/lang/Math", name := "max", desc := "(II)I" } : Jvm.MethodName) jdk_29_method_65_code (2 : Nat) (Option.some Jvm.ClassFile.FieldType.int)).before args0 about1 = true := code_word (m := ⟨2, 1⟩) (meth := k2m1) (c := k2c1) (by decide +kernel) rfl rfl rfl (by decide +kernel)
set_option maxRecDepth 65536 in
theorem w_c3 : (Jvm.Cond.code ({ cls := "com/example/hornstone/hornstone/read/Position", name := "<init>", desc := "()V" } : Jvm.MethodName) prog_103_method_1_code (1 : Nat) (Option.none : Option Jvm.ClassFile.FieldType)).before args0 about1 = true := code_word (m := ⟨3, 0⟩) (meth := k3m0) (c := k3c0) (by decide +kernel) rfl rfl rfl (by decide +kernel)
set_option maxRecDepth 65536 in
theorem w_c4 : (Jvm.Cond.code ({ cls := "java/lang/Object", name := "<init>", desc := "()V" } : Jvm.MethodName) object_method_1_code (1 : Nat) (Option.none : Option Jvm.ClassFile.FieldType)).before args0 about1 = true := code_word (m := ⟨0, 0⟩) (meth := k0m0) (c := k0c0) (by decide +kernel) rfl rfl rfl (by decide +kernel)
set_option maxRecDepth 65536 in
theorem w_c5 : (Jvm.Cond.code ({ cls := "com/example/hornstone/hornstone/read/Position", name := "advance", desc := "([CII)V" } : Jvm.MethodName) prog_103_method_3_code (7 : Nat) (Option.none : Option Jvm.ClassFile.FieldType)).before args0 about1 = true := code_word (m := ⟨3, 2⟩) (meth := k3m2) (c := k3c2) (by decide +kernel) rfl rfl rfl (by decide +kernel)
set_option maxRecDepth 65536 in
theorem w_c6 : (Jvm.Cond.code ({ cls := "com/example/hornstone/hornstone/read/Position", name := "advance", desc := "(I)V" } : Jvm.MethodName) prog_103_method_2_code (4 : Nat) (Option.none : Option Jvm.ClassFile.FieldType)).before args0 about1 = true := code_word (m := ⟨3, 1⟩) (meth := k3m1) (c := k3c1) (by decide +kernel) rfl rfl rfl (by decide +kernel)
set_option maxRecDepth 65536 in
theorem w_c7 : (Jvm.Cond.code ({ cls := "java/lang/Math", name := "min", desc := "(II)I" } : Jvm.MethodName) jdk_29_method_69_code (2 : Nat) (Option.some Jvm.ClassFile.FieldType.int)).before args0 about1 = true := code_word (m := ⟨2, 2⟩) (meth := k2m2) (c := k2c2) (by decide +kernel) rfl rfl rfl (by decide +kernel)
set_option maxRecDepth 65536 in
theorem w_c8 : (Jvm.Cond.code ({ cls := "java/lang/Character", name := "isLowSurrogate", desc := "(C)Z" } : Jvm.MethodName) jdk_89_method_15_code (1 : Nat) (Option.some Jvm.ClassFile.FieldType.boolean)).before args0 about1 = true := code_word (m := ⟨7, 0⟩) (meth := k7m0) (c := k7c0) (by decide +kernel) rfl rfl rfl (by decide +kernel)
set_option maxRecDepth 65536 in
theorem w_c9 : (Jvm.Cond.code ({ cls := "com/example/hornstone/hornstone/read/Position", name := "stepBack", desc := "()V" } : Jvm.MethodName) prog_103_method_5_code (1 : Nat) (Option.none : Option Jvm.ClassFile.FieldType)).before args0 about1 = true := code_word (m := ⟨3, 3⟩) (meth := k3m3) (c := k3c3) (by decide +kernel) rfl rfl rfl (by decide +kernel)
set_option maxRecDepth 65536 in
theorem w_c10 : (Jvm.Cond.code ({ cls := "com/example/hornstone/hornstone/read/Position", name := "line", desc := "()I" } : Jvm.MethodName) prog_103_method_6_code (1 : Nat) (Option.some Jvm.ClassFile.FieldType.int)).before args0 about1 = true := code_word (m := ⟨3, 4⟩) (meth := k3m4) (c := k3c4) (by decide +kernel) rfl rfl rfl (by decide +kernel)
set_option maxRecDepth 65536 in
theorem w_c11 : (Jvm.Cond.code ({ cls := "com/example/hornstone/hornstone/read/Position", name := "column", desc := "()I" } : Jvm.MethodName) prog_103_method_7_code (1 : Nat) (Option.some Jvm.ClassFile.FieldType.int)).before args0 about1 = true := code_word (m := ⟨3, 5⟩) (meth := k3m5) (c := k3c5) (by decide +kernel) rfl rfl rfl (by decide +kernel)
set_option maxRecDepth 65536 in
theorem w_c12 : (Jvm.Cond.code ({ cls := "com/example/hornstone/hornstone/read/Position", name := "nextLine", desc := "()I" } : Jvm.MethodName) prog_103_method_8_code (1 : Nat) (Option.some Jvm.ClassFile.FieldType.int)).before args0 about1 = true := code_word (m := ⟨3, 6⟩) (meth := k3m6) (c := k3c6) (by decide +kernel) rfl rfl rfl (by decide +kernel)
def codes1 : List Jvm.Cond := [Jvm.Cond.code x code maxLocals ret, Jvm.Cond.code ({ cls := "com/example/hornstone/hornstone/read/PositionStepBackPinLaw", name := "pick", desc := "(JIJI)C" } : Jvm.MethodName) method_2_code (8 : Nat) (Option.some Jvm.ClassFile.FieldType.char), Jvm.Cond.code ({ cls := "java/lang/Math", name := "max", desc := "(II)I" } : Jvm.MethodName) jdk_29_method_65_code (2 : Nat) (Option.some Jvm.ClassFile.FieldType.int), Jvm.Cond.code ({ cls := "com/example/hornstone/hornstone/read/Position", name := "<init>", desc := "()V" } : Jvm.MethodName) prog_103_method_1_code (1 : Nat) (Option.none : Option Jvm.ClassFile.FieldType), Jvm.Cond.code ({ cls := "java/lang/Object", name := "<init>", desc := "()V" } : Jvm.MethodName) object_method_1_code (1 : Nat) (Option.none : Option Jvm.ClassFile.FieldType), Jvm.Cond.code ({ cls := "com/example/hornstone/hornstone/read/Position", name := "advance", desc := "([CII)V" } : Jvm.MethodName) prog_103_method_3_code (7 : Nat) (Option.none : Option Jvm.ClassFile.FieldType), Jvm.Cond.code ({ cls := "com/example/hornstone/hornstone/read/Position", name := "advance", desc := "(I)V" } : Jvm.MethodName) prog_103_method_2_code (4 : Nat) (Option.none : Option Jvm.ClassFile.FieldType), Jvm.Cond.code ({ cls := "java/lang/Math", name := "min", desc := "(II)I" } : Jvm.MethodName) jdk_29_method_69_code (2 : Nat) (Option.some Jvm.ClassFile.FieldType.int), Jvm.Cond.code ({ cls := "java/lang/Character", name := "isLowSurrogate", desc := "(C)Z" } : Jvm.MethodName) jdk_89_method_15_code (1 : Nat) (Option.some Jvm.ClassFile.FieldType.boolean), Jvm.Cond.code ({ cls := "com/example/hornstone/hornstone/read/Position", name := "stepBack", desc := "()V" } : Jvm.MethodName) prog_103_method_5_code (1 : Nat) (Option.none : Option Jvm.ClassFile.FieldType), Jvm.Cond.code ({ cls := "com/example/hornstone/hornstone/read/Position", name := "line", desc := "()I" } : Jvm.MethodName) prog_103_method_6_code (1 : Nat) (Option.some Jvm.ClassFile.FieldType.int), Jvm.Cond.code ({ cls := "com/example/hornstone/hornstone/read/Position", name := "column", desc := "()I" } : Jvm.MethodName) prog_103_method_7_code (1 : Nat) (Option.some Jvm.ClassFile.FieldType.int), Jvm.Cond.code ({ cls := "com/example/hornstone/hornstone/read/Position", name := "nextLine", desc := "()I" } : Jvm.MethodName) prog_103_method_8_code (1 : Nat) (Option.some Jvm.ClassFile.FieldType.int)]
set_option maxRecDepth 65536 in
theorem codes_eq : words1.filter isCode = codes1 := rfl
theorem w_codes : ∀ c ∈ words1.filter isCode, c.before args0 about1 = true := by
  rw [codes_eq]
  intro c hc
  simp only [codes1, List.mem_cons, List.not_mem_nil, or_false] at hc
  rcases hc with rfl | rfl | rfl | rfl | rfl | rfl | rfl | rfl | rfl | rfl | rfl | rfl | rfl
  · exact w_c0
  · exact w_c1
  · exact w_c2
  · exact w_c3
  · exact w_c4
  · exact w_c5
  · exact w_c6
  · exact w_c7
  · exact w_c8
  · exact w_c9
  · exact w_c10
  · exact w_c11
  · exact w_c12
set_option maxRecDepth 65536 in
theorem w_t1 : (words1.take 24).all (fun c => isCode c || c.before args0 about1) = true := by decide +kernel
set_option maxRecDepth 65536 in
theorem w_t2 : ((words1.drop 24).take 24).all (fun c => isCode c || c.before args0 about1) = true := by decide +kernel
set_option maxRecDepth 65536 in
theorem w_t3 : (((words1.drop 24).drop 24).take 24).all (fun c => isCode c || c.before args0 about1) = true := by decide +kernel
set_option maxRecDepth 65536 in
theorem w_t4 : (((words1.drop 24).drop 24).drop 24).all (fun c => isCode c || c.before args0 about1) = true := by decide +kernel
theorem w_tables : (allAtoms (Jvm.Cond.code x code maxLocals ret :: tables_1)).before args0 about1 = true := by
  rw [allAtoms_all]
  show words1.all (fun c => c.before args0 about1) = true
  refine all_split ?_ w_codes
  rw [← List.take_append_drop 24 words1, List.all_append, w_t1, ← List.take_append_drop 24 (words1.drop 24), List.all_append, w_t2, ← List.take_append_drop 24 ((words1.drop 24).drop 24), List.all_append, w_t3, w_t4]
  rfl
set_option maxRecDepth 65536 in
theorem w_case : (Jvm.Cond.and given_1 narrow_1).before args0 about1 = true := by decide +kernel
theorem w_applies : (headSpec (Jvm.Cond.code x code maxLocals ret :: tables_1) room_1).applies x e0.platform about1 = true :=
  (Spec.applies_iff w_frames).mpr ⟨w_running, w_runnable, w_alone, w_named, w_hears, w_ripe, w_room, w_tables⟩
theorem atStart : AtStart classFile x code maxLocals ret World_1 tables_1 room_1 Calls_1 rest_1 Pre_1 launch0 p0 e0 about1 theMethod args0 below0 :=
  ⟨lists_1, trivial, launch0.admits_env _ _ _, launch0.least_env, fairChoices_fair.cas, fairChoices_fair.clock, w_frames, w_args, w_heap, w_applies, trivial, trivial, w_case⟩
end start1
theorem witness_1 : WitnessClaimed_1 := ⟨start1.p0, start1.e0, start1.about1, start1.theMethod, start1.args0, start1.below0, start1.atStart⟩
end Jvm.Pilot.@@N@@
