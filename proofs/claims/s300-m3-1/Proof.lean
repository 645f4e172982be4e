import JvmDerived
import JvmDerived.Pilot.@@N@@Statement
import JvmDerived.Pilot.@@N@@Code
set_option linter.unusedVariables false
set_option linter.unusedSimpArgs false
namespace Jvm.GoKit
open Sem ClassFile Op Lib Jvm.Stand Jvm.Free Jvm.LawKit Jvm.RoadKit
/-- what is fixed of one walk, but for the method's own figures -/
abbrev Cx : Type := Program × Launch × Env × State × MethodId × Array Value × List Frame × Method × Code
abbrev Cx.p (E : Cx) : Program := E.1
abbrev Cx.l (E : Cx) : Launch := E.2.1
abbrev Cx.e (E : Cx) : Env := E.2.2.1
abbrev Cx.s (E : Cx) : State := E.2.2.2.1
abbrev Cx.m (E : Cx) : MethodId := E.2.2.2.2.1
abbrev Cx.args (E : Cx) : Array Value := E.2.2.2.2.2.1
abbrev Cx.below (E : Cx) : List Frame := E.2.2.2.2.2.2.1
abbrev Cx.meth (E : Cx) : Method := E.2.2.2.2.2.2.2.1
abbrev Cx.c (E : Cx) : Code := E.2.2.2.2.2.2.2.2
/-- a method's own figures: its name, bytes, locals, return type, room -/
abbrev Mt : Type := MethodName × ByteArray × Nat × Option FieldType × Room
abbrev Mt.y (k : Mt) : MethodName := k.1
abbrev Mt.bytes (k : Mt) : ByteArray := k.2.1
abbrev Mt.maxL (k : Mt) : Nat := k.2.2.1
abbrev Mt.ret (k : Mt) : Option FieldType := k.2.2.2.1
abbrev Mt.rm (k : Mt) : Room := k.2.2.2.2
/-- the run from S ends, as G says -/
def Go (E : Cx) (G : State → Outcome → Prop) (S : State) : Prop := ∃ s₂ o, Steps E.p.tables E.e E.below S s₂ ∧ s₂.status = .running ∧ Ended s₂ E.below o ∧ G s₂ o
abbrev Fm (E : Cx) (T : State) (pc : Nat) (Ls : Array Slot) (st : List Value) : State := T.setTop (mkF E.m pc Ls st)
theorem nb {a b : Nat} (h : Nat.ble a b = true) : a ≤ b := Nat.le_of_ble_eq_true h
theorem Go.step {E : Cx} {G : State → Outcome → Prop} {S S' : State} (g : Go E G S') (k : ∀ t, Steps E.p.tables E.e E.below S' t → Steps E.p.tables E.e E.below S t) : Go E G S := by
  obtain ⟨s₂, o, h1, h2⟩ := g
  exact ⟨s₂, o, k _ h1, h2⟩
theorem Go.mono {E : Cx} {G G' : State → Outcome → Prop} {S : State} (g : Go E G S) (k : ∀ t o, G t o → G' t o) : Go E G' S := by
  obtain ⟨s₂, o, h1, h2, h3, h4⟩ := g
  exact ⟨s₂, o, h1, h2, h3, k _ _ h4⟩
/-- where a walk stands: its tables' start Z, the heap h, what it has made at the most; what it wrote lies at or above n0 -/
def On (k : Mt) (Z : State) (n0 : Nat) (E : Cx) (T : State) (h : Heap) (cells slots : Nat) : Prop :=
  (E.p.tables.exec = Jvm.exec ∧ E.c.code = k.bytes ∧ E.c.maxLocals = k.maxL ∧ E.s.vm.findClass k.y.cls = some E.m.cls ∧ E.meth.sig.returnType = k.ret ∧ E.meth.locks = false ∧ Z.Warmed39 E.s.vm ∧ E.meth.name = k.y.name ∧ E.s.methodNamed? k.y = some E.m) ∧ T.heap = h ∧
  ∃ locs cells' slots', cells' ≤ cells ∧ slots' ≤ slots ∧ Fr n0 locs ∧ Stand E.p E.l E.e k.rm E.s E.m E.args E.below E.meth E.c T locs cells' slots'
section
variable {k : Mt} {Z : State} {n0 : Nat} {E : Cx} {T : State} {h : Heap} {cells slots : Nat} {G : State → Outcome → Prop} {a0 : Array Value} {pc pc' : Nat} {Ls : Array Slot} {st : List Value}
theorem On.exec (W : On k Z n0 E T h cells slots) : E.p.tables.exec = Jvm.exec := W.1.1
theorem On.bytes (W : On k Z n0 E T h cells slots) : E.c.code = k.bytes := W.1.2.1
theorem On.maxL (W : On k Z n0 E T h cells slots) : E.c.maxLocals = k.maxL := W.1.2.2.1
theorem On.own (W : On k Z n0 E T h cells slots) : E.s.vm.findClass k.y.cls = some E.m.cls := W.1.2.2.2.1
theorem On.ret (W : On k Z n0 E T h cells slots) : E.meth.sig.returnType = k.ret := W.1.2.2.2.2.1
theorem On.locks (W : On k Z n0 E T h cells slots) : E.meth.locks = false := W.1.2.2.2.2.2.1
theorem On.hZ (W : On k Z n0 E T h cells slots) : Z.Warmed39 E.s.vm := W.1.2.2.2.2.2.2.1
theorem On.nm (W : On k Z n0 E T h cells slots) : E.meth.name = k.y.name := W.1.2.2.2.2.2.2.2.1
theorem On.named (W : On k Z n0 E T h cells slots) : E.s.methodNamed? k.y = some E.m := W.1.2.2.2.2.2.2.2.2
theorem On.heap (W : On k Z n0 E T h cells slots) : T.heap = h := W.2.1
theorem On.here (W : On k Z n0 E T h cells slots) : At T E.m E.c E.below := by obtain ⟨-, -, _, _, _, -, -, -, X⟩ := W; exact X.here
theorem On.mono {cells' slots' : Nat} (W : On k Z n0 E T h cells slots) (h1 : cells ≤ cells') (h2 : slots ≤ slots') : On k Z n0 E T h cells' slots' := by
  obtain ⟨q, e, L, a, b, ha, hb, r⟩ := W; exact ⟨q, e, L, a, b, Nat.le_trans ha h1, Nat.le_trans hb h2, r⟩
theorem On.sub {h' : Heap} (W : On k Z n0 E T h cells slots) (q : h = h') : On k Z n0 E T h' cells slots := q ▸ W
theorem On.heq {h' : Heap} (W : On k Z n0 E T h cells slots) (q : h' = h) : On k Z n0 E T h' cells slots := q.symm ▸ W
theorem go_iloadN (W : On k Z n0 E T h cells slots) {i : Fin 4} {v : Int32} (hd : decode k.bytes pc = .ok (.iload_n i, 1)) (hl : Ls[i.val]? = some (.val (.int v))) (hp : pc + 1 = pc') (g : Go E G (Fm E T pc' Ls (.int v :: st))) : Go E G (Fm E T pc Ls st) := by
  subst hp; exact g.step fun t r => XS.iloadN W.here W.exec rfl (hb W.bytes hd) hl r
theorem go_iload (W : On k Z n0 E T h cells slots) {i : Nat} {v : Int32} (hd : decode k.bytes pc = .ok (.iload i, 2)) (hl : Ls[i]? = some (.val (.int v))) (hp : pc + 2 = pc') (g : Go E G (Fm E T pc' Ls (.int v :: st))) : Go E G (Fm E T pc Ls st) := by
  subst hp; exact g.step fun t r => XS.iload W.here W.exec rfl (hb W.bytes hd) hl r
theorem go_istoreN (W : On k Z n0 E T h cells slots) {i : Fin 4} {v : Int32} {l' : Array Slot} (hd : decode k.bytes pc = .ok (.istore_n i, 1)) (hl : storeLocals Ls i.val (.int v) = some l') (hp : pc + 1 = pc') (g : Go E G (Fm E T pc' l' st)) : Go E G (Fm E T pc Ls (.int v :: st)) := by
  subst hp; exact g.step fun t r => XS.istoreN W.here W.exec rfl (hb W.bytes hd) rfl hl r
theorem go_istore (W : On k Z n0 E T h cells slots) {i : Nat} {v : Int32} {l' : Array Slot} (hd : decode k.bytes pc = .ok (.istore i, 2)) (hl : storeLocals Ls i (.int v) = some l') (hp : pc + 2 = pc') (g : Go E G (Fm E T pc' l' st)) : Go E G (Fm E T pc Ls (.int v :: st)) := by
  subst hp; exact g.step fun t r => XS.istore W.here W.exec rfl (hb W.bytes hd) rfl hl r
theorem go_lloadN (W : On k Z n0 E T h cells slots) {i : Fin 4} {v : Int64} (hd : decode k.bytes pc = .ok (.lload_n i, 1)) (hl : Ls[i.val]? = some (.val (.long v))) (hp : pc + 1 = pc') (g : Go E G (Fm E T pc' Ls (.long v :: st))) : Go E G (Fm E T pc Ls st) := by
  subst hp; exact g.step fun t r => XS.lloadN W.here W.exec rfl (hb W.bytes hd) hl r
theorem go_lload (W : On k Z n0 E T h cells slots) {i : Nat} {v : Int64} (hd : decode k.bytes pc = .ok (.lload i, 2)) (hl : Ls[i]? = some (.val (.long v))) (hp : pc + 2 = pc') (g : Go E G (Fm E T pc' Ls (.long v :: st))) : Go E G (Fm E T pc Ls st) := by
  subst hp; exact g.step fun t r => XS.lload W.here W.exec rfl (hb W.bytes hd) hl r
theorem go_lstoreN (W : On k Z n0 E T h cells slots) {i : Fin 4} {v : Int64} {l' : Array Slot} (hd : decode k.bytes pc = .ok (.lstore_n i, 1)) (hl : storeLocals Ls i.val (.long v) = some l') (hp : pc + 1 = pc') (g : Go E G (Fm E T pc' l' st)) : Go E G (Fm E T pc Ls (.long v :: st)) := by
  subst hp; exact g.step fun t r => XS.lstoreN W.here W.exec rfl (hb W.bytes hd) rfl hl r
theorem go_lstore (W : On k Z n0 E T h cells slots) {i : Nat} {v : Int64} {l' : Array Slot} (hd : decode k.bytes pc = .ok (.lstore i, 2)) (hl : storeLocals Ls i (.long v) = some l') (hp : pc + 2 = pc') (g : Go E G (Fm E T pc' l' st)) : Go E G (Fm E T pc Ls (.long v :: st)) := by
  subst hp; exact g.step fun t r => XS.lstore W.here W.exec rfl (hb W.bytes hd) rfl hl r
theorem go_aloadN (W : On k Z n0 E T h cells slots) {i : Fin 4} {v : Value} (hd : decode k.bytes pc = .ok (.aload_n i, 1)) (hl : Ls[i.val]? = some (.val v)) (hv : v.isRef = true) (hp : pc + 1 = pc') (g : Go E G (Fm E T pc' Ls (v :: st))) : Go E G (Fm E T pc Ls st) := by
  subst hp; exact g.step fun t r => XS.aloadN W.here W.exec rfl (hb W.bytes hd) hl hv r
theorem go_aload (W : On k Z n0 E T h cells slots) {i : Nat} {v : Value} (hd : decode k.bytes pc = .ok (.aload i, 2)) (hl : Ls[i]? = some (.val v)) (hv : v.isRef = true) (hp : pc + 2 = pc') (g : Go E G (Fm E T pc' Ls (v :: st))) : Go E G (Fm E T pc Ls st) := by
  subst hp; exact g.step fun t r => XS.aload W.here W.exec rfl (hb W.bytes hd) hl hv r
theorem go_astoreN (W : On k Z n0 E T h cells slots) {i : Fin 4} {v : Value} {l' : Array Slot} (hd : decode k.bytes pc = .ok (.astore_n i, 1)) (hv : v.isRef = true) (hl : storeLocals Ls i.val v = some l') (hp : pc + 1 = pc') (g : Go E G (Fm E T pc' l' st)) : Go E G (Fm E T pc Ls (v :: st)) := by
  subst hp; exact g.step fun t r => XS.astoreN W.here W.exec rfl (hb W.bytes hd) rfl hv hl r
theorem go_astore (W : On k Z n0 E T h cells slots) {i : Nat} {v : Value} {l' : Array Slot} (hd : decode k.bytes pc = .ok (.astore i, 2)) (hv : v.isRef = true) (hl : storeLocals Ls i v = some l') (hp : pc + 2 = pc') (g : Go E G (Fm E T pc' l' st)) : Go E G (Fm E T pc Ls (v :: st)) := by
  subst hp; exact g.step fun t r => XS.astore W.here W.exec rfl (hb W.bytes hd) rfl hv hl r
theorem go_iconst (W : On k Z n0 E T h cells slots) {i : Int} {z : Int32} (hd : decode k.bytes pc = .ok (.iconst i, 1)) (hz : Int32.ofInt i = z) (hp : pc + 1 = pc') (g : Go E G (Fm E T pc' Ls (.int z :: st))) : Go E G (Fm E T pc Ls st) := by
  subst hp; exact g.step fun t r => XS.iconst W.here W.exec rfl (hb W.bytes hd) (hz.symm ▸ r)
theorem go_bipush (W : On k Z n0 E T h cells slots) {i : Int} {z : Int32} (hd : decode k.bytes pc = .ok (.bipush i, 2)) (hz : (Int8.ofInt i).toInt32 = z) (hp : pc + 2 = pc') (g : Go E G (Fm E T pc' Ls (.int z :: st))) : Go E G (Fm E T pc Ls st) := by
  subst hp; exact g.step fun t r => XS.bipush W.here W.exec rfl (hb W.bytes hd) (hz.symm ▸ r)
theorem go_sipush (W : On k Z n0 E T h cells slots) {i : Int} {z : Int32} (hd : decode k.bytes pc = .ok (.sipush i, 3)) (hz : (Int16.ofInt i).toInt32 = z) (hp : pc + 3 = pc') (g : Go E G (Fm E T pc' Ls (.int z :: st))) : Go E G (Fm E T pc Ls st) := by
  subst hp; exact g.step fun t r => XS.sipush W.here W.exec rfl (hb W.bytes hd) (hz.symm ▸ r)
theorem go_lconst (W : On k Z n0 E T h cells slots) {i : Fin 2} {z : Int64} (hd : decode k.bytes pc = .ok (.lconst i, 1)) (hz : Int64.ofNat i = z) (hp : pc + 1 = pc') (g : Go E G (Fm E T pc' Ls (.long z :: st))) : Go E G (Fm E T pc Ls st) := by
  subst hp; exact g.step fun t r => XS.lconst W.here W.exec rfl (hb W.bytes hd) (hz.symm ▸ r)
theorem go_aconstNull (W : On k Z n0 E T h cells slots)  (hd : decode k.bytes pc = .ok (.aconst_null, 1))  (hp : pc + 1 = pc') (g : Go E G (Fm E T pc' Ls (.null :: st))) : Go E G (Fm E T pc Ls st) := by
  subst hp; exact g.step fun t r => XS.aconstNull W.here W.exec rfl (hb W.bytes hd) r
theorem go_iadd (W : On k Z n0 E T h cells slots) {x y : Int32} (hd : decode k.bytes pc = .ok (.iadd, 1))  (hp : pc + 1 = pc') (g : Go E G (Fm E T pc' Ls (.int (x + y) :: st))) : Go E G (Fm E T pc Ls (.int y :: .int x :: st)) := by
  subst hp; exact g.step fun t r => XS.iadd W.here W.exec rfl (hb W.bytes hd) rfl r
theorem go_ladd (W : On k Z n0 E T h cells slots) {x y : Int64} (hd : decode k.bytes pc = .ok (.ladd, 1))  (hp : pc + 1 = pc') (g : Go E G (Fm E T pc' Ls (.long (x + y) :: st))) : Go E G (Fm E T pc Ls (.long y :: .long x :: st)) := by
  subst hp; exact g.step fun t r => XS.ladd W.here W.exec rfl (hb W.bytes hd) rfl r
theorem go_isub (W : On k Z n0 E T h cells slots) {x y : Int32} (hd : decode k.bytes pc = .ok (.isub, 1))  (hp : pc + 1 = pc') (g : Go E G (Fm E T pc' Ls (.int (x - y) :: st))) : Go E G (Fm E T pc Ls (.int y :: .int x :: st)) := by
  subst hp; exact g.step fun t r => XS.isub W.here W.exec rfl (hb W.bytes hd) rfl r
theorem go_lsub (W : On k Z n0 E T h cells slots) {x y : Int64} (hd : decode k.bytes pc = .ok (.lsub, 1))  (hp : pc + 1 = pc') (g : Go E G (Fm E T pc' Ls (.long (x - y) :: st))) : Go E G (Fm E T pc Ls (.long y :: .long x :: st)) := by
  subst hp; exact g.step fun t r => XS.lsub W.here W.exec rfl (hb W.bytes hd) rfl r
theorem go_imul (W : On k Z n0 E T h cells slots) {x y : Int32} (hd : decode k.bytes pc = .ok (.imul, 1))  (hp : pc + 1 = pc') (g : Go E G (Fm E T pc' Ls (.int (x * y) :: st))) : Go E G (Fm E T pc Ls (.int y :: .int x :: st)) := by
  subst hp; exact g.step fun t r => XS.imul W.here W.exec rfl (hb W.bytes hd) rfl r
theorem go_lmul (W : On k Z n0 E T h cells slots) {x y : Int64} (hd : decode k.bytes pc = .ok (.lmul, 1))  (hp : pc + 1 = pc') (g : Go E G (Fm E T pc' Ls (.long (x * y) :: st))) : Go E G (Fm E T pc Ls (.long y :: .long x :: st)) := by
  subst hp; exact g.step fun t r => XS.lmul W.here W.exec rfl (hb W.bytes hd) rfl r
theorem go_iand (W : On k Z n0 E T h cells slots) {x y : Int32} (hd : decode k.bytes pc = .ok (.iand, 1))  (hp : pc + 1 = pc') (g : Go E G (Fm E T pc' Ls (.int (x &&& y) :: st))) : Go E G (Fm E T pc Ls (.int y :: .int x :: st)) := by
  subst hp; exact g.step fun t r => XS.iand W.here W.exec rfl (hb W.bytes hd) rfl r
theorem go_land (W : On k Z n0 E T h cells slots) {x y : Int64} (hd : decode k.bytes pc = .ok (.land, 1))  (hp : pc + 1 = pc') (g : Go E G (Fm E T pc' Ls (.long (x &&& y) :: st))) : Go E G (Fm E T pc Ls (.long y :: .long x :: st)) := by
  subst hp; exact g.step fun t r => XS.land W.here W.exec rfl (hb W.bytes hd) rfl r
theorem go_ior (W : On k Z n0 E T h cells slots) {x y : Int32} (hd : decode k.bytes pc = .ok (.ior, 1))  (hp : pc + 1 = pc') (g : Go E G (Fm E T pc' Ls (.int (x ||| y) :: st))) : Go E G (Fm E T pc Ls (.int y :: .int x :: st)) := by
  subst hp; exact g.step fun t r => XS.ior W.here W.exec rfl (hb W.bytes hd) rfl r
theorem go_lor (W : On k Z n0 E T h cells slots) {x y : Int64} (hd : decode k.bytes pc = .ok (.lor, 1))  (hp : pc + 1 = pc') (g : Go E G (Fm E T pc' Ls (.long (x ||| y) :: st))) : Go E G (Fm E T pc Ls (.long y :: .long x :: st)) := by
  subst hp; exact g.step fun t r => XS.lor W.here W.exec rfl (hb W.bytes hd) rfl r
theorem go_ixor (W : On k Z n0 E T h cells slots) {x y : Int32} (hd : decode k.bytes pc = .ok (.ixor, 1))  (hp : pc + 1 = pc') (g : Go E G (Fm E T pc' Ls (.int (x ^^^ y) :: st))) : Go E G (Fm E T pc Ls (.int y :: .int x :: st)) := by
  subst hp; exact g.step fun t r => XS.ixor W.here W.exec rfl (hb W.bytes hd) rfl r
theorem go_lxor (W : On k Z n0 E T h cells slots) {x y : Int64} (hd : decode k.bytes pc = .ok (.lxor, 1))  (hp : pc + 1 = pc') (g : Go E G (Fm E T pc' Ls (.long (x ^^^ y) :: st))) : Go E G (Fm E T pc Ls (.long y :: .long x :: st)) := by
  subst hp; exact g.step fun t r => XS.lxor W.here W.exec rfl (hb W.bytes hd) rfl r
theorem go_iaddZ (W : On k Z n0 E T h cells slots) {x y z : Int32} (hd : decode k.bytes pc = .ok (.iadd, 1)) (hz : x + y = z) (hp : pc + 1 = pc') (g : Go E G (Fm E T pc' Ls (.int z :: st))) : Go E G (Fm E T pc Ls (.int y :: .int x :: st)) := by
  subst hp; exact g.step fun t r => XS.iadd W.here W.exec rfl (hb W.bytes hd) rfl (hz.symm ▸ r)
theorem go_isubZ (W : On k Z n0 E T h cells slots) {x y z : Int32} (hd : decode k.bytes pc = .ok (.isub, 1)) (hz : x - y = z) (hp : pc + 1 = pc') (g : Go E G (Fm E T pc' Ls (.int z :: st))) : Go E G (Fm E T pc Ls (.int y :: .int x :: st)) := by
  subst hp; exact g.step fun t r => XS.isub W.here W.exec rfl (hb W.bytes hd) rfl (hz.symm ▸ r)
theorem go_imulZ (W : On k Z n0 E T h cells slots) {x y z : Int32} (hd : decode k.bytes pc = .ok (.imul, 1)) (hz : x * y = z) (hp : pc + 1 = pc') (g : Go E G (Fm E T pc' Ls (.int z :: st))) : Go E G (Fm E T pc Ls (.int y :: .int x :: st)) := by
  subst hp; exact g.step fun t r => XS.imul W.here W.exec rfl (hb W.bytes hd) rfl (hz.symm ▸ r)
theorem go_iandZ (W : On k Z n0 E T h cells slots) {x y z : Int32} (hd : decode k.bytes pc = .ok (.iand, 1)) (hz : x &&& y = z) (hp : pc + 1 = pc') (g : Go E G (Fm E T pc' Ls (.int z :: st))) : Go E G (Fm E T pc Ls (.int y :: .int x :: st)) := by
  subst hp; exact g.step fun t r => XS.iand W.here W.exec rfl (hb W.bytes hd) rfl (hz.symm ▸ r)
theorem go_iorZ (W : On k Z n0 E T h cells slots) {x y z : Int32} (hd : decode k.bytes pc = .ok (.ior, 1)) (hz : x ||| y = z) (hp : pc + 1 = pc') (g : Go E G (Fm E T pc' Ls (.int z :: st))) : Go E G (Fm E T pc Ls (.int y :: .int x :: st)) := by
  subst hp; exact g.step fun t r => XS.ior W.here W.exec rfl (hb W.bytes hd) rfl (hz.symm ▸ r)
theorem go_ixorZ (W : On k Z n0 E T h cells slots) {x y z : Int32} (hd : decode k.bytes pc = .ok (.ixor, 1)) (hz : x ^^^ y = z) (hp : pc + 1 = pc') (g : Go E G (Fm E T pc' Ls (.int z :: st))) : Go E G (Fm E T pc Ls (.int y :: .int x :: st)) := by
  subst hp; exact g.step fun t r => XS.ixor W.here W.exec rfl (hb W.bytes hd) rfl (hz.symm ▸ r)
theorem go_idiv (W : On k Z n0 E T h cells slots) {x y : Int32} (hd : decode k.bytes pc = .ok (.idiv, 1)) (hy : y ≠ 0) (hp : pc + 1 = pc') (g : Go E G (Fm E T pc' Ls (.int (x / y) :: st))) : Go E G (Fm E T pc Ls (.int y :: .int x :: st)) := by
  subst hp; exact g.step fun t r => XS.idiv W.here W.exec rfl (hb W.bytes hd) rfl hy r
theorem go_irem (W : On k Z n0 E T h cells slots) {x y : Int32} (hd : decode k.bytes pc = .ok (.irem, 1)) (hy : y ≠ 0) (hp : pc + 1 = pc') (g : Go E G (Fm E T pc' Ls (.int (x % y) :: st))) : Go E G (Fm E T pc Ls (.int y :: .int x :: st)) := by
  obtain ⟨C, hh, _, _, _, -, -, -, X⟩ := W
  subst hp; exact g.step fun t r => iremM X C.1 rfl (hb C.2.1 hd) rfl hy r
theorem go_ineg (W : On k Z n0 E T h cells slots) {x : Int32} (hd : decode k.bytes pc = .ok (.ineg, 1))  (hp : pc + 1 = pc') (g : Go E G (Fm E T pc' Ls (.int (-x) :: st))) : Go E G (Fm E T pc Ls (.int x :: st)) := by
  subst hp; exact g.step fun t r => XS.ineg W.here W.exec rfl (hb W.bytes hd) rfl r
theorem go_ishl (W : On k Z n0 E T h cells slots) {x y : Int32} (hd : decode k.bytes pc = .ok (.ishl, 1))  (hp : pc + 1 = pc') (g : Go E G (Fm E T pc' Ls (.int (x <<< (y &&& 31)) :: st))) : Go E G (Fm E T pc Ls (.int y :: .int x :: st)) := by
  subst hp; exact g.step fun t r => XS.ishl W.here W.exec rfl (hb W.bytes hd) rfl r
theorem go_ishr (W : On k Z n0 E T h cells slots) {x y : Int32} (hd : decode k.bytes pc = .ok (.ishr, 1))  (hp : pc + 1 = pc') (g : Go E G (Fm E T pc' Ls (.int (x >>> (y &&& 31)) :: st))) : Go E G (Fm E T pc Ls (.int y :: .int x :: st)) := by
  subst hp; exact g.step fun t r => XS.ishr W.here W.exec rfl (hb W.bytes hd) rfl r
theorem go_iushr (W : On k Z n0 E T h cells slots) {x y : Int32} (hd : decode k.bytes pc = .ok (.iushr, 1))  (hp : pc + 1 = pc') (g : Go E G (Fm E T pc' Ls (.int ((x.toUInt32 >>> (y &&& 31).toUInt32).toInt32) :: st))) : Go E G (Fm E T pc Ls (.int y :: .int x :: st)) := by
  subst hp; exact g.step fun t r => XS.iushr W.here W.exec rfl (hb W.bytes hd) rfl r
theorem go_lshl (W : On k Z n0 E T h cells slots) {x : Int64} {y : Int32} (hd : decode k.bytes pc = .ok (.lshl, 1))  (hp : pc + 1 = pc') (g : Go E G (Fm E T pc' Ls (.long (x <<< (y &&& 0x3f).toInt64) :: st))) : Go E G (Fm E T pc Ls (.int y :: .long x :: st)) := by
  subst hp; exact g.step fun t r => XS.lshl W.here W.exec rfl (hb W.bytes hd) rfl r
theorem go_lshr (W : On k Z n0 E T h cells slots) {x : Int64} {y : Int32} (hd : decode k.bytes pc = .ok (.lshr, 1))  (hp : pc + 1 = pc') (g : Go E G (Fm E T pc' Ls (.long (x >>> (y &&& 0x3f).toInt64) :: st))) : Go E G (Fm E T pc Ls (.int y :: .long x :: st)) := by
  subst hp; exact g.step fun t r => XS.lshr W.here W.exec rfl (hb W.bytes hd) rfl r
theorem go_lushr (W : On k Z n0 E T h cells slots) {x : Int64} {y : Int32} (hd : decode k.bytes pc = .ok (.lushr, 1))  (hp : pc + 1 = pc') (g : Go E G (Fm E T pc' Ls (.long ((x.toUInt64 >>> (y &&& 0x3f).toInt64.toUInt64).toInt64) :: st))) : Go E G (Fm E T pc Ls (.int y :: .long x :: st)) := by
  subst hp; exact g.step fun t r => XS.lushr W.here W.exec rfl (hb W.bytes hd) rfl r
theorem go_i2l (W : On k Z n0 E T h cells slots) {x : Int32} (hd : decode k.bytes pc = .ok (.i2l, 1))  (hp : pc + 1 = pc') (g : Go E G (Fm E T pc' Ls (.long (x.toInt64) :: st))) : Go E G (Fm E T pc Ls (.int x :: st)) := by
  subst hp; exact g.step fun t r => XS.i2l W.here W.exec rfl (hb W.bytes hd) rfl r
theorem go_l2i (W : On k Z n0 E T h cells slots) {x : Int64} (hd : decode k.bytes pc = .ok (.l2i, 1))  (hp : pc + 1 = pc') (g : Go E G (Fm E T pc' Ls (.int (x.toInt32) :: st))) : Go E G (Fm E T pc Ls (.long x :: st)) := by
  subst hp; exact g.step fun t r => XS.l2i W.here W.exec rfl (hb W.bytes hd) rfl r
theorem go_i2b (W : On k Z n0 E T h cells slots) {x : Int32} (hd : decode k.bytes pc = .ok (.i2b, 1))  (hp : pc + 1 = pc') (g : Go E G (Fm E T pc' Ls (.int (x.toInt8.toInt32) :: st))) : Go E G (Fm E T pc Ls (.int x :: st)) := by
  subst hp; exact g.step fun t r => XS.i2b W.here W.exec rfl (hb W.bytes hd) rfl r
theorem go_i2s (W : On k Z n0 E T h cells slots) {x : Int32} (hd : decode k.bytes pc = .ok (.i2s, 1))  (hp : pc + 1 = pc') (g : Go E G (Fm E T pc' Ls (.int (x.toInt16.toInt32) :: st))) : Go E G (Fm E T pc Ls (.int x :: st)) := by
  subst hp; exact g.step fun t r => XS.i2s W.here W.exec rfl (hb W.bytes hd) rfl r
theorem go_i2c (W : On k Z n0 E T h cells slots) {x : Int32} (hd : decode k.bytes pc = .ok (.i2c, 1))  (hp : pc + 1 = pc') (g : Go E G (Fm E T pc' Ls (.int (x.toUInt32.toUInt16.toUInt32.toInt32) :: st))) : Go E G (Fm E T pc Ls (.int x :: st)) := by
  subst hp; exact g.step fun t r => XS.i2c W.here W.exec rfl (hb W.bytes hd) rfl r
theorem go_lneg (W : On k Z n0 E T h cells slots) {x : Int64} (hd : decode k.bytes pc = .ok (.lneg, 1))  (hp : pc + 1 = pc') (g : Go E G (Fm E T pc' Ls (.long (-x) :: st))) : Go E G (Fm E T pc Ls (.long x :: st)) := by
  subst hp; exact g.step fun t r => XS.lneg W.here W.exec rfl (hb W.bytes hd) rfl r
theorem go_lcmp (W : On k Z n0 E T h cells slots) {x y : Int64} (hd : decode k.bytes pc = .ok (.lcmp, 1))  (hp : pc + 1 = pc') (g : Go E G (Fm E T pc' Ls (.int (lcmpW x y) :: st))) : Go E G (Fm E T pc Ls (.long y :: .long x :: st)) := by
  subst hp; exact g.step fun t r => XS.lcmp W.here W.exec rfl (hb W.bytes hd) rfl r
theorem go_dup (W : On k Z n0 E T h cells slots) {x : Value} (hd : decode k.bytes pc = .ok (.dup, 1)) (hc : x.category = 1) (hp : pc + 1 = pc') (g : Go E G (Fm E T pc' Ls (x :: x :: st))) : Go E G (Fm E T pc Ls (x :: st)) := by
  subst hp; exact g.step fun t r => XS.dup W.here W.exec rfl (hb W.bytes hd) rfl hc r
theorem go_pop (W : On k Z n0 E T h cells slots) {x : Value} (hd : decode k.bytes pc = .ok (.pop, 1)) (hc : x.category = 1) (hp : pc + 1 = pc') (g : Go E G (Fm E T pc' Ls st)) : Go E G (Fm E T pc Ls (x :: st)) := by
  subst hp; exact g.step fun t r => XS.pop W.here W.exec rfl (hb W.bytes hd) rfl hc r
theorem go_dupX1 (W : On k Z n0 E T h cells slots) {x y : Value} (hd : decode k.bytes pc = .ok (.dup_x1, 1)) (hc : x.category = 1) (hc' : y.category = 1) (hp : pc + 1 = pc') (g : Go E G (Fm E T pc' Ls (x :: y :: x :: st))) : Go E G (Fm E T pc Ls (x :: y :: st)) := by
  subst hp; exact g.step fun t r => XS.dupX1 W.here W.exec rfl (hb W.bytes hd) rfl hc hc' r
theorem go_dup2 (W : On k Z n0 E T h cells slots) {x y : Value} (hd : decode k.bytes pc = .ok (.dup2, 1)) (hc : x.category = 1) (hc' : y.category = 1) (hp : pc + 1 = pc') (g : Go E G (Fm E T pc' Ls (x :: y :: x :: y :: st))) : Go E G (Fm E T pc Ls (x :: y :: st)) := by
  subst hp; exact g.step fun t r => XT.dup2 W.here W.exec rfl (hb W.bytes hd) rfl hc hc' r
theorem go_iinc (W : On k Z n0 E T h cells slots) {i : Nat} {cst : Int} {x z : Int32} {l' : Array Slot} (hd : decode k.bytes pc = .ok (.iinc i cst, 3)) (hl : Ls[i]? = some (.val (.int x))) (hz : x + Int32.ofInt cst = z) (hl' : storeLocals Ls i (.int z) = some l') (hp : pc + 3 = pc') (g : Go E G (Fm E T pc' l' st)) : Go E G (Fm E T pc Ls st) := by
  subst hp; exact g.step fun t r => XS.iinc W.here W.exec rfl (hb W.bytes hd) hl (hz.symm ▸ hl') r
theorem go_dupX2 (W : On k Z n0 E T h cells slots) {x y z : Value} (hd : decode k.bytes pc = .ok (.dup_x2, 1)) (h1 : x.category = 1) (h2 : y.category = 1) (h3 : z.category = 1) (hp : pc + 1 = pc') (g : Go E G (Fm E T pc' Ls (x :: y :: z :: x :: st))) : Go E G (Fm E T pc Ls (x :: y :: z :: st)) := by
  subst hp
  refine g.step fun t r => ?_
  have q := W.here; have hx := W.exec; have hd' := hb W.bytes hd
  show Steps E.p.tables E.e E.below (T.setTop { method := E.m, pc := pc, locals := Ls, stack := x :: y :: z :: st, locked := none }) t
  jvm_step q [q.top, hx, hd', h1, h2, h3]
  exact r
theorem go_goto (W : On k Z n0 E T h cells slots) {o : Int} (hd : decode k.bytes pc = .ok (.goto o, 3)) (ho : 0 ≤ (pc : Int) + o) (hp : ((pc : Int) + o).toNat = pc') (g : Go E G (Fm E T pc' Ls st)) : Go E G (Fm E T pc Ls st) := by
  exact g.step fun t r => XS.goto W.here W.exec rfl rfl (hb W.bytes hd) ho hp r
theorem go_icmp_lt (W : On k Z n0 E T h cells slots) {x y : Int32} {o : Int} {pt pf : Nat} (hd : decode k.bytes pc = .ok (.if_icmp .lt o, 3)) (ho : 0 ≤ (pc : Int) + o) (hp : ((pc : Int) + o).toNat = pt) (hq : pc + 3 = pf) (g1 : x < y → Go E G (Fm E T pt Ls st)) (g2 : ¬ x < y → Go E G (Fm E T pf Ls st)) : Go E G (Fm E T pc Ls (.int y :: .int x :: st)) := by
  subst hq
  by_cases q : x < y
  · exact (g1 q).step fun t r => XS.icmpYes W.here W.exec rfl rfl (hb W.bytes hd) rfl (tlt q).1 ho hp r
  · exact (g2 q).step fun t r => XS.icmpNo W.here W.exec rfl (hb W.bytes hd) rfl (flt q).1 r
theorem go_if_lt (W : On k Z n0 E T h cells slots) {x : Int32} {o : Int} {pt pf : Nat} (hd : decode k.bytes pc = .ok (.ifCond .lt o, 3)) (ho : 0 ≤ (pc : Int) + o) (hp : ((pc : Int) + o).toNat = pt) (hq : pc + 3 = pf) (g1 : x < 0 → Go E G (Fm E T pt Ls st)) (g2 : ¬ x < 0 → Go E G (Fm E T pf Ls st)) : Go E G (Fm E T pc Ls (.int x :: st)) := by
  subst hq
  by_cases q : x < 0
  · exact (g1 q).step fun t r => XS.ifYes W.here W.exec rfl rfl (hb W.bytes hd) rfl ((if0 _ _).trans (tlt q).1) ho hp r
  · exact (g2 q).step fun t r => XS.ifNo W.here W.exec rfl (hb W.bytes hd) rfl ((if0 _ _).trans (flt q).1) r
theorem go_icmp_ge (W : On k Z n0 E T h cells slots) {x y : Int32} {o : Int} {pt pf : Nat} (hd : decode k.bytes pc = .ok (.if_icmp .ge o, 3)) (ho : 0 ≤ (pc : Int) + o) (hp : ((pc : Int) + o).toNat = pt) (hq : pc + 3 = pf) (g1 : ¬ x < y → Go E G (Fm E T pt Ls st)) (g2 : x < y → Go E G (Fm E T pf Ls st)) : Go E G (Fm E T pc Ls (.int y :: .int x :: st)) := by
  subst hq
  by_cases q : ¬ x < y
  · exact (g1 q).step fun t r => XS.icmpYes W.here W.exec rfl rfl (hb W.bytes hd) rfl (flt q).2.1 ho hp r
  · replace q := Decidable.not_not.mp q; exact (g2 q).step fun t r => XS.icmpNo W.here W.exec rfl (hb W.bytes hd) rfl (tlt q).2.1 r
theorem go_if_ge (W : On k Z n0 E T h cells slots) {x : Int32} {o : Int} {pt pf : Nat} (hd : decode k.bytes pc = .ok (.ifCond .ge o, 3)) (ho : 0 ≤ (pc : Int) + o) (hp : ((pc : Int) + o).toNat = pt) (hq : pc + 3 = pf) (g1 : ¬ x < 0 → Go E G (Fm E T pt Ls st)) (g2 : x < 0 → Go E G (Fm E T pf Ls st)) : Go E G (Fm E T pc Ls (.int x :: st)) := by
  subst hq
  by_cases q : ¬ x < 0
  · exact (g1 q).step fun t r => XS.ifYes W.here W.exec rfl rfl (hb W.bytes hd) rfl ((if0 _ _).trans (flt q).2.1) ho hp r
  · replace q := Decidable.not_not.mp q; exact (g2 q).step fun t r => XS.ifNo W.here W.exec rfl (hb W.bytes hd) rfl ((if0 _ _).trans (tlt q).2.1) r
theorem go_icmp_gt (W : On k Z n0 E T h cells slots) {x y : Int32} {o : Int} {pt pf : Nat} (hd : decode k.bytes pc = .ok (.if_icmp .gt o, 3)) (ho : 0 ≤ (pc : Int) + o) (hp : ((pc : Int) + o).toNat = pt) (hq : pc + 3 = pf) (g1 : y < x → Go E G (Fm E T pt Ls st)) (g2 : ¬ y < x → Go E G (Fm E T pf Ls st)) : Go E G (Fm E T pc Ls (.int y :: .int x :: st)) := by
  subst hq
  by_cases q : y < x
  · exact (g1 q).step fun t r => XS.icmpYes W.here W.exec rfl rfl (hb W.bytes hd) rfl (tlt q).2.2.1 ho hp r
  · exact (g2 q).step fun t r => XS.icmpNo W.here W.exec rfl (hb W.bytes hd) rfl (flt q).2.2.1 r
theorem go_if_gt (W : On k Z n0 E T h cells slots) {x : Int32} {o : Int} {pt pf : Nat} (hd : decode k.bytes pc = .ok (.ifCond .gt o, 3)) (ho : 0 ≤ (pc : Int) + o) (hp : ((pc : Int) + o).toNat = pt) (hq : pc + 3 = pf) (g1 : 0 < x → Go E G (Fm E T pt Ls st)) (g2 : ¬ 0 < x → Go E G (Fm E T pf Ls st)) : Go E G (Fm E T pc Ls (.int x :: st)) := by
  subst hq
  by_cases q : 0 < x
  · exact (g1 q).step fun t r => XS.ifYes W.here W.exec rfl rfl (hb W.bytes hd) rfl ((if0 _ _).trans (tlt q).2.2.1) ho hp r
  · exact (g2 q).step fun t r => XS.ifNo W.here W.exec rfl (hb W.bytes hd) rfl ((if0 _ _).trans (flt q).2.2.1) r
theorem go_icmp_le (W : On k Z n0 E T h cells slots) {x y : Int32} {o : Int} {pt pf : Nat} (hd : decode k.bytes pc = .ok (.if_icmp .le o, 3)) (ho : 0 ≤ (pc : Int) + o) (hp : ((pc : Int) + o).toNat = pt) (hq : pc + 3 = pf) (g1 : ¬ y < x → Go E G (Fm E T pt Ls st)) (g2 : y < x → Go E G (Fm E T pf Ls st)) : Go E G (Fm E T pc Ls (.int y :: .int x :: st)) := by
  subst hq
  by_cases q : ¬ y < x
  · exact (g1 q).step fun t r => XS.icmpYes W.here W.exec rfl rfl (hb W.bytes hd) rfl (flt q).2.2.2 ho hp r
  · replace q := Decidable.not_not.mp q; exact (g2 q).step fun t r => XS.icmpNo W.here W.exec rfl (hb W.bytes hd) rfl (tlt q).2.2.2 r
theorem go_if_le (W : On k Z n0 E T h cells slots) {x : Int32} {o : Int} {pt pf : Nat} (hd : decode k.bytes pc = .ok (.ifCond .le o, 3)) (ho : 0 ≤ (pc : Int) + o) (hp : ((pc : Int) + o).toNat = pt) (hq : pc + 3 = pf) (g1 : ¬ 0 < x → Go E G (Fm E T pt Ls st)) (g2 : 0 < x → Go E G (Fm E T pf Ls st)) : Go E G (Fm E T pc Ls (.int x :: st)) := by
  subst hq
  by_cases q : ¬ 0 < x
  · exact (g1 q).step fun t r => XS.ifYes W.here W.exec rfl rfl (hb W.bytes hd) rfl ((if0 _ _).trans (flt q).2.2.2) ho hp r
  · replace q := Decidable.not_not.mp q; exact (g2 q).step fun t r => XS.ifNo W.here W.exec rfl (hb W.bytes hd) rfl ((if0 _ _).trans (tlt q).2.2.2) r
theorem go_icmp_eq (W : On k Z n0 E T h cells slots) {x y : Int32} {o : Int} {pt pf : Nat} (hd : decode k.bytes pc = .ok (.if_icmp .eq o, 3)) (ho : 0 ≤ (pc : Int) + o) (hp : ((pc : Int) + o).toNat = pt) (hq : pc + 3 = pf) (g1 : x = y → Go E G (Fm E T pt Ls st)) (g2 : ¬ x = y → Go E G (Fm E T pf Ls st)) : Go E G (Fm E T pc Ls (.int y :: .int x :: st)) := by
  subst hq
  by_cases q : x = y
  · exact (g1 q).step fun t r => XS.icmpYes W.here W.exec rfl rfl (hb W.bytes hd) rfl (teq q).1 ho hp r
  · exact (g2 q).step fun t r => XS.icmpNo W.here W.exec rfl (hb W.bytes hd) rfl (feq q).1 r
theorem go_if_eq (W : On k Z n0 E T h cells slots) {x : Int32} {o : Int} {pt pf : Nat} (hd : decode k.bytes pc = .ok (.ifCond .eq o, 3)) (ho : 0 ≤ (pc : Int) + o) (hp : ((pc : Int) + o).toNat = pt) (hq : pc + 3 = pf) (g1 : x = 0 → Go E G (Fm E T pt Ls st)) (g2 : ¬ x = 0 → Go E G (Fm E T pf Ls st)) : Go E G (Fm E T pc Ls (.int x :: st)) := by
  subst hq
  by_cases q : x = 0
  · exact (g1 q).step fun t r => XS.ifYes W.here W.exec rfl rfl (hb W.bytes hd) rfl ((if0 _ _).trans (teq q).1) ho hp r
  · exact (g2 q).step fun t r => XS.ifNo W.here W.exec rfl (hb W.bytes hd) rfl ((if0 _ _).trans (feq q).1) r
theorem go_icmp_ne (W : On k Z n0 E T h cells slots) {x y : Int32} {o : Int} {pt pf : Nat} (hd : decode k.bytes pc = .ok (.if_icmp .ne o, 3)) (ho : 0 ≤ (pc : Int) + o) (hp : ((pc : Int) + o).toNat = pt) (hq : pc + 3 = pf) (g1 : ¬ x = y → Go E G (Fm E T pt Ls st)) (g2 : x = y → Go E G (Fm E T pf Ls st)) : Go E G (Fm E T pc Ls (.int y :: .int x :: st)) := by
  subst hq
  by_cases q : ¬ x = y
  · exact (g1 q).step fun t r => XS.icmpYes W.here W.exec rfl rfl (hb W.bytes hd) rfl (feq q).2 ho hp r
  · replace q := Decidable.not_not.mp q; exact (g2 q).step fun t r => XS.icmpNo W.here W.exec rfl (hb W.bytes hd) rfl (teq q).2 r
theorem go_if_ne (W : On k Z n0 E T h cells slots) {x : Int32} {o : Int} {pt pf : Nat} (hd : decode k.bytes pc = .ok (.ifCond .ne o, 3)) (ho : 0 ≤ (pc : Int) + o) (hp : ((pc : Int) + o).toNat = pt) (hq : pc + 3 = pf) (g1 : ¬ x = 0 → Go E G (Fm E T pt Ls st)) (g2 : x = 0 → Go E G (Fm E T pf Ls st)) : Go E G (Fm E T pc Ls (.int x :: st)) := by
  subst hq
  by_cases q : ¬ x = 0
  · exact (g1 q).step fun t r => XS.ifYes W.here W.exec rfl rfl (hb W.bytes hd) rfl ((if0 _ _).trans (feq q).2) ho hp r
  · replace q := Decidable.not_not.mp q; exact (g2 q).step fun t r => XS.ifNo W.here W.exec rfl (hb W.bytes hd) rfl ((if0 _ _).trans (teq q).2) r
theorem go_acmp_eq (W : On k Z n0 E T h cells slots) {x y : Value} {o : Int} {pt pf : Nat} (hd : decode k.bytes pc = .ok (.if_acmp .eq o, 3)) (h1 : x.isRef = true) (h2 : y.isRef = true) (ho : 0 ≤ (pc : Int) + o) (hp : ((pc : Int) + o).toNat = pt) (hq : pc + 3 = pf) (g1 : x = y → Go E G (Fm E T pt Ls st)) (g2 : ¬ x = y → Go E G (Fm E T pf Ls st)) : Go E G (Fm E T pc Ls (y :: x :: st)) := by
  obtain ⟨C, hh, _, _, _, -, -, -, X⟩ := W
  by_cases q : x = y
  · exact (g1 q).step fun t r => Jvm.RoadKit.acmp (g := mkF E.m pc Ls (y :: x :: st)) X C.1 rfl h1 h2 (pc0 := pc) (pc' := pt) (same := true) rfl (hb C.2.1 hd) rfl (decide_eq_true q) ho hp.symm r
  · exact (g2 q).step fun t r => Jvm.RoadKit.acmp (g := mkF E.m pc Ls (y :: x :: st)) X C.1 rfl h1 h2 (pc0 := pc) (pc' := pf) (same := false) rfl (hb C.2.1 hd) rfl (decide_eq_false q) ho hq.symm r
theorem go_acmp_ne (W : On k Z n0 E T h cells slots) {x y : Value} {o : Int} {pt pf : Nat} (hd : decode k.bytes pc = .ok (.if_acmp .ne o, 3)) (h1 : x.isRef = true) (h2 : y.isRef = true) (ho : 0 ≤ (pc : Int) + o) (hp : ((pc : Int) + o).toNat = pt) (hq : pc + 3 = pf) (g1 : ¬ x = y → Go E G (Fm E T pt Ls st)) (g2 : x = y → Go E G (Fm E T pf Ls st)) : Go E G (Fm E T pc Ls (y :: x :: st)) := by
  obtain ⟨C, hh, _, _, _, -, -, -, X⟩ := W
  by_cases q : x = y
  · exact (g2 q).step fun t r => Jvm.RoadKit.acmp (g := mkF E.m pc Ls (y :: x :: st)) X C.1 rfl h1 h2 (pc0 := pc) (pc' := pf) (same := true) rfl (hb C.2.1 hd) rfl (decide_eq_true q) ho hq.symm r
  · exact (g1 q).step fun t r => Jvm.RoadKit.acmp (g := mkF E.m pc Ls (y :: x :: st)) X C.1 rfl h1 h2 (pc0 := pc) (pc' := pt) (same := false) rfl (hb C.2.1 hd) rfl (decide_eq_false q) ho hp.symm r
theorem go_ifnull_null (W : On k Z n0 E T h cells slots) {o : Int} (hd : decode k.bytes pc = .ok (.ifnull o, 3)) (ho : 0 ≤ (pc : Int) + o) (hp : ((pc : Int) + o).toNat = pc') (g : Go E G (Fm E T pc' Ls st)) : Go E G (Fm E T pc Ls (.null :: st)) :=
  g.step fun t r => XS.ifnullYes W.here W.exec rfl rfl (hb W.bytes hd) rfl ho hp r
theorem go_ifnull_ref (W : On k Z n0 E T h cells slots) {o : Int} {b : Addr} (hd : decode k.bytes pc = .ok (.ifnull o, 3)) (hp : pc + 3 = pc') (g : Go E G (Fm E T pc' Ls st)) : Go E G (Fm E T pc Ls (.ref b :: st)) := by
  subst hp; exact g.step fun t r => XS.ifnullNo W.here W.exec rfl (hb W.bytes hd) rfl r
theorem go_ifnonnull_ref (W : On k Z n0 E T h cells slots) {o : Int} {b : Addr} (hd : decode k.bytes pc = .ok (.ifnonnull o, 3)) (ho : 0 ≤ (pc : Int) + o) (hp : ((pc : Int) + o).toNat = pc') (g : Go E G (Fm E T pc' Ls st)) : Go E G (Fm E T pc Ls (.ref b :: st)) :=
  g.step fun t r => XS.ifnonnullYes W.here W.exec rfl rfl (hb W.bytes hd) rfl ho hp r
theorem go_ifnonnull_null (W : On k Z n0 E T h cells slots) {o : Int} (hd : decode k.bytes pc = .ok (.ifnonnull o, 3)) (hp : pc + 3 = pc') (g : Go E G (Fm E T pc' Ls st)) : Go E G (Fm E T pc Ls (.null :: st)) := by
  subst hp; exact g.step fun t r => XS.ifnonnullNo W.here W.exec rfl (hb W.bytes hd) rfl r
theorem go_tswIn (W : On k Z n0 E T h cells slots) {dflt low high : Int} {offs : Array Int} {len : Nat} {o : Int} {i : Int32} (hd : decode k.bytes pc = .ok (.tableswitch dflt low high offs, len)) (hin : ¬ (i.toInt < low ∨ i.toInt > high)) (hoff : offs[(i.toInt - low).toNat]? = some o) (ho : 0 ≤ (pc : Int) + o) (hp : ((pc : Int) + o).toNat = pc') (g : Go E G (Fm E T pc' Ls st)) : Go E G (Fm E T pc Ls (.int i :: st)) :=
  g.step fun t r => XS.tswIn W.here W.exec rfl rfl (hb W.bytes hd) rfl hin hoff ho hp r
theorem go_tswOut (W : On k Z n0 E T h cells slots) {dflt low high : Int} {offs : Array Int} {len : Nat} {i : Int32} (hd : decode k.bytes pc = .ok (.tableswitch dflt low high offs, len)) (hout : i.toInt < low ∨ i.toInt > high) (ho : 0 ≤ (pc : Int) + dflt) (hp : ((pc : Int) + dflt).toNat = pc') (g : Go E G (Fm E T pc' Ls st)) : Go E G (Fm E T pc Ls (.int i :: st)) :=
  g.step fun t r => XS.tswOut W.here W.exec rfl rfl (hb W.bytes hd) rfl hout ho hp r
theorem go_ldcInt (W : On k Z n0 E T h cells slots) {index : Nat} {v : Int32} (w : (Cond.constant k.y.cls index v).before a0 Z = true) (hd : decode k.bytes pc = .ok (.ldc index, 2)) (hp : pc + 2 = pc') (g : Go E G (Fm E T pc' Ls (.int v :: st))) : Go E G (Fm E T pc Ls st) := by
  obtain ⟨C, hh, _, _, _, -, -, -, X⟩ := W
  subst hp; exact g.step fun t r => X.ldcInt C.1 C.2.2.2.1 (mvT C.2.2.2.2.2.2.1 w) (g := mkF E.m pc Ls st) rfl (hb C.2.1 hd) _ r
theorem go_ldcwInt (W : On k Z n0 E T h cells slots) {index : Nat} {v : Int32} (w : (Cond.constant k.y.cls index v).before a0 Z = true) (hd : decode k.bytes pc = .ok (.ldc_w index, 3)) (hp : pc + 3 = pc') (g : Go E G (Fm E T pc' Ls (.int v :: st))) : Go E G (Fm E T pc Ls st) := by
  obtain ⟨C, hh, _, _, _, -, -, -, X⟩ := W
  subst hp; exact g.step fun t r => X.ldcwInt C.1 C.2.2.2.1 (mvT C.2.2.2.2.2.2.1 w) (g := mkF E.m pc Ls st) rfl (hb C.2.1 hd) _ r
theorem go_ldc2Long (W : On k Z n0 E T h cells slots) {index : Nat} {v : Int64} (w : (Cond.constantLong k.y.cls index v).before a0 Z = true) (hd : decode k.bytes pc = .ok (.ldc2_w index, 3)) (hp : pc + 3 = pc') (g : Go E G (Fm E T pc' Ls (.long v :: st))) : Go E G (Fm E T pc Ls st) := by
  obtain ⟨C, hh, _, _, _, -, -, -, X⟩ := W
  subst hp; exact g.step fun t r => X.ldc2Long C.1 C.2.2.2.1 (mvT C.2.2.2.2.2.2.1 w) (g := mkF E.m pc Ls st) rfl (hb C.2.1 hd) _ r
/-! fields -/
theorem go_getF (W : On k Z n0 E T h cells slots) {R0 O n d host : String} {index : Nat} (w : (Cond.fieldLink k.y.cls index R0 n d).before a0 Z = true ∨ (Cond.fieldLinkNest k.y.cls index R0 n d host).before a0 Z = true) (via : Via Z R0 O n d) {a : Addr} {v : Value} (F : Fld Z h a O n d v)
    (hd : decode k.bytes pc = .ok (.getfield index, 3)) (hp : pc + 3 = pc') (g : ∀ T', On k Z n0 E T' h cells slots → Go E G (Fm E T' pc' Ls (v :: st))) : Go E G (Fm E T pc Ls (.ref a :: st)) := by
  obtain ⟨C, hh, L, a1, b1, ha, hb1, hF, X⟩ := W
  subst hp
  obtain ⟨T', X', e', st'⟩ := getF X C.1 C.2.2.2.2.2.2.1 C.2.2.2.1 w via hh F (g := mkF E.m pc Ls (.ref a :: st)) rfl rfl (hb C.2.1 hd)
  exact (g T' ⟨C, e', L, a1, b1, ha, hb1, hF, X'⟩).step st'
theorem go_getS (W : On k Z n0 E T h cells slots) {R0 O n d host : String} {index : Nat} (w : (Cond.fieldLink k.y.cls index R0 n d).before a0 Z = true ∨ (Cond.fieldLinkNest k.y.cls index R0 n d host).before a0 Z = true) (via : Via Z R0 O n d) {v : Value} (F : Sta Z h O n d v)
    (hd : decode k.bytes pc = .ok (.getstatic index, 3)) (hp : pc + 3 = pc') (g : ∀ T', On k Z n0 E T' h cells slots → Go E G (Fm E T' pc' Ls (v :: st))) : Go E G (Fm E T pc Ls st) := by
  obtain ⟨C, hh, L, a1, b1, ha, hb1, hF, X⟩ := W
  subst hp
  obtain ⟨T', X', e', st'⟩ := getS2 X C.1 C.2.2.2.2.2.2.1 C.2.2.2.1 w via hh F (g := mkF E.m pc Ls st) rfl (hb C.2.1 hd)
  exact (g T' ⟨C, e', L, a1, b1, ha, hb1, hF, X'⟩).step st'
theorem go_putF (W : On k Z n0 E T h cells slots) {R0 O n d host K : String} {index kk : Nat} {ty : FieldType} (w : (Cond.fieldLink k.y.cls index R0 n d).before a0 Z = true ∨ (Cond.fieldLinkNest k.y.cls index R0 n d host).before a0 Z = true) (via : Via Z R0 O n d) {a : Addr} {v old : Value} (F : Fld Z h a O n d old) (Ex : Exa Z h a K)
    (L : (Cond.lays K O n d).before a0 Z = true ∨ ((Cond.laysFinal K O n d).before a0 Z = true ∧ k.y.cls = O ∧ k.y.name = "<init>")) (wi : (Cond.instantiable K kk).before a0 Z = true) (hty : parseFieldDescriptor d = some ty) (hn : narrow ty v = v) (hf : fits ty v = true) (hn0 : n0 ≤ a)
    (hd : decode k.bytes pc = .ok (.putfield index, 3)) (hp : pc + 3 = pc') (g : ∀ T' h', On k Z n0 E T' h' cells slots → Wr h h' a (Jvm.RoadKit.slotOf Z O n d) v → Go E G (Fm E T' pc' Ls st)) : Go E G (Fm E T pc Ls (v :: .ref a :: st)) := by
  obtain ⟨C, hh, Lc, a1, b1, ha, hb1, hF, X⟩ := W
  subst hp
  obtain ⟨T', h', X', e', W', st'⟩ := putF X C.1 C.2.2.2.2.2.2.1 C.2.2.2.1 w via hh F Ex (L.imp id fun q => ⟨q.1, q.2.1, C.2.2.2.2.2.2.2.1.trans q.2.2⟩) wi hty hn hf (g := mkF E.m pc Ls (v :: .ref a :: st)) rfl rfl (hb C.2.1 hd)
  exact (g T' h' ⟨C, e', _, a1, b1, ha, hb1, Fr.snoc X' hF hn0, X'⟩ W').step st'
theorem go_new (W : On k Z n0 E T h cells slots) {K : String} {index n : Nat} (w : (Cond.classLink k.y.cls index K).before a0 Z = true) (wi : (Cond.instantiable K n).before a0 Z = true) (wz : (Cond.initialized K).before a0 Z = true) (hd : decode k.bytes pc = .ok (.new index, 3)) (hc : cells + 1 ≤ k.rm.cells) (hl : slots + n ≤ k.rm.slots) (hp : pc + 3 = pc')
    (g : ∀ T' h' a, a = h.size → On k Z n0 E T' h' (cells + 1) (slots + n) → Ext h h' → Exa Z h' a K → (∀ {O nm d : String} {ty : FieldType}, Laid Z a0 K O nm d → parseFieldDescriptor d = some ty → Fld Z h' a O nm d (defaultValue ty)) → (∃ cell : Cell, h'[a]? = some cell ∧ cell.vm = .none ∧ cell.monitor = {}) → Go E G (Fm E T' pc' Ls (.ref a :: st))) : Go E G (Fm E T pc Ls st) := by
  obtain ⟨C, hh, L, a1, b1, ha, hb1, hF, X⟩ := W
  subst hp
  obtain ⟨T', h', X', e', E', A', D', M', st'⟩ := newO X C.1 C.2.2.2.2.2.2.1 C.2.2.2.1 w wi wz hh (g := mkF E.m pc Ls st) rfl (hb C.2.1 hd) (Nat.le_trans (Nat.add_le_add_right ha 1) hc) (Nat.le_trans (Nat.add_le_add_right hb1 n) hl)
  exact (g T' h' _ rfl ⟨C, e', L, _, _, Nat.add_le_add_right ha 1, Nat.add_le_add_right hb1 n, hF, X'⟩ E' A' D' M').step st'
theorem go_initO (W : On k Z n0 E T h cells slots) {index : Nat} (w1 : (Cond.methodLink k.y.cls index Lib.objectInit).before a0 Z = true) (w2 : (Cond.instanceMethod Lib.objectInit).before a0 Z = true) (w3 : (Cond.code Lib.objectInit ⟨#[0xb1]⟩ 1 none).before a0 Z = true) {a : Addr} (hd : decode k.bytes pc = .ok (.invokespecial index, 3)) (hm : Ls.size = k.maxL) (hf : 1 ≤ k.rm.frames) (hl : (st.map fun v => v.category).sum + 12 ≤ k.rm.locals) (hp : pc + 3 = pc')
    (g : ∀ T', On k Z n0 E T' h cells slots → Go E G (Fm E T' pc' Ls st)) : Go E G (Fm E T pc Ls (.ref a :: st)) := by
  obtain ⟨C, hh, L, a1, b1, ha, hb1, hF, X⟩ := W
  subst hp
  obtain ⟨T', X', e', st'⟩ := initO X C.1 C.2.2.2.2.2.2.1 C.2.2.2.1 w1 w2 w3 hh (g := mkF E.m pc Ls (.ref a :: st)) rfl (hm.trans C.2.2.1.symm) rfl (hb C.2.1 hd) hf (W := (st.map fun v => v.category).sum) (by show 2 * 0 + _ ≤ _; omega) hl
  exact (g T' ⟨C, e', L, a1, b1, ha, hb1, hF, X'⟩).step st'
theorem go_castY (W : On k Z n0 E T h cells slots) {K : String} {index : Nat} (w : (Cond.classLink k.y.cls index K).before a0 Z = true) {a : Addr} (F : Ins Z h a K true) (hd : decode k.bytes pc = .ok (.checkcast index, 3)) (hp : pc + 3 = pc') (g : ∀ T', On k Z n0 E T' h cells slots → Go E G (Fm E T' pc' Ls (.ref a :: st))) : Go E G (Fm E T pc Ls (.ref a :: st)) := by
  obtain ⟨C, hh, L, a1, b1, ha, hb1, hF, X⟩ := W
  subst hp
  obtain ⟨T', X', e', st'⟩ := castY X C.1 C.2.2.2.2.2.2.1 C.2.2.2.1 w hh F (g := mkF E.m pc Ls (.ref a :: st)) rfl rfl (hb C.2.1 hd)
  exact (g T' ⟨C, e', L, a1, b1, ha, hb1, hF, X'⟩).step st'
theorem go_instY (W : On k Z n0 E T h cells slots) {K : String} {index : Nat} (w : (Cond.classLink k.y.cls index K).before a0 Z = true) {a : Addr} (F : Ins Z h a K true) (hd : decode k.bytes pc = .ok (.instanceof index, 3)) (hp : pc + 3 = pc') (g : ∀ T', On k Z n0 E T' h cells slots → Go E G (Fm E T' pc' Ls (.int 1 :: st))) : Go E G (Fm E T pc Ls (.ref a :: st)) := by
  obtain ⟨C, hh, L, a1, b1, ha, hb1, hF, X⟩ := W
  subst hp
  obtain ⟨T', X', e', st'⟩ := instY X C.1 C.2.2.2.2.2.2.1 C.2.2.2.1 w hh F (g := mkF E.m pc Ls (.ref a :: st)) rfl rfl (hb C.2.1 hd)
  exact (g T' ⟨C, e', L, a1, b1, ha, hb1, hF, X'⟩).step st'
/-! arrays -/
theorem go_newP (W : On k Z n0 E T h cells slots) {aty : ArrayType} (w : (Cond.arrayClass (newarray.typeOf aty)).before a0 Z = true) {n : Int32} (hd : decode k.bytes pc = .ok (.newarray aty, 2)) (hn : ¬ n < 0) (cap : Nat) (hcap : n.toNatClampNeg ≤ cap) (hb8 : cap * 8 ≤ 536870912) (hc : cells + 1 ≤ k.rm.cells) (hl : slots + cap ≤ k.rm.slots) (hp : pc + 2 = pc')
    (g : ∀ T' h' cA a, a = h.size → On k Z n0 E T' h' (cells + 1) (slots + cap) → Ext h h' → Arr Z h' a (newA cA (newarray.typeOf aty) n) (newarray.typeOf aty) → Go E G (Fm E T' pc' Ls (.ref a :: st))) : Go E G (Fm E T pc Ls (.int n :: st)) := by
  obtain ⟨C, hh, L, a1, b1, ha, hb1, hF, X⟩ := W
  subst hp
  obtain ⟨T', h', cA, X', e', E', A', st'⟩ := newP X C.1 C.2.2.2.2.2.2.1 w hh (g := mkF E.m pc Ls (.int n :: st)) rfl (hb C.2.1 hd) rfl hn hcap hb8 (Nat.le_trans (Nat.add_le_add_right ha 1) hc) (Nat.le_trans (Nat.add_le_add_right hb1 cap) hl)
  exact (g T' h' cA _ rfl ⟨C, e', L, _, _, Nat.add_le_add_right ha 1, Nat.add_le_add_right hb1 cap, hF, X'⟩ E' A').step st'
theorem go_arraylength (W : On k Z n0 E T h cells slots) {a : Addr} {cl : Cell} {ty : FieldType} {z : Int32} (A : Arr Z h a cl ty) (hz : cl.slots.size.toInt32 = z) (hd : decode k.bytes pc = .ok (.arraylength, 1)) (hp : pc + 1 = pc') (g : Go E G (Fm E T pc' Ls (.int z :: st))) : Go E G (Fm E T pc Ls (.ref a :: st)) := by
  obtain ⟨C, hh, L, a1, b1, ha, hb1, hF, X⟩ := W
  subst hp; subst hz
  exact g.step fun t r => X.arraylength C.1 (by rw [hh]; exact A.1) (State.isArrayOf_alike C.2.2.2.2.2.2.1.alike A.2.1) (g := mkF E.m pc Ls (.ref a :: st)) rfl rfl (hb C.2.1 hd) _ r
theorem go_stI (W : On k Z n0 E T h cells slots) {a : Addr} {cl : Cell} (A : Arr Z h a cl .int) {j : Int32} {x : Int32} (hj : ¬ (j < 0 ∨ cl.slots.size ≤ j.toNatClampNeg)) (hn0 : n0 ≤ a) (hd : decode k.bytes pc = .ok (.iastore, 1)) (hp : pc + 1 = pc') (g : ∀ T' h', On k Z n0 E T' h' cells slots → Wr h h' a j.toNatClampNeg (.int x) → Go E G (Fm E T' pc' Ls st)) : Go E G (Fm E T pc Ls (.int x :: .int j :: .ref a :: st)) := by
  obtain ⟨C, hh, L, a1, b1, ha, hb1, hF, X⟩ := W
  subst hp
  obtain ⟨T', h', X', e', W', st'⟩ := stI X C.1 C.2.2.2.2.2.2.1 hh A hj (g := mkF E.m pc Ls (.int x :: .int j :: .ref a :: st)) rfl rfl (hb C.2.1 hd)
  exact (g T' h' ⟨C, e', _, a1, b1, ha, hb1, Fr.snoc X' hF hn0, X'⟩ W').step st'
theorem go_stJ (W : On k Z n0 E T h cells slots) {a : Addr} {cl : Cell} (A : Arr Z h a cl .long) {j : Int32} {x : Int64} (hj : ¬ (j < 0 ∨ cl.slots.size ≤ j.toNatClampNeg)) (hn0 : n0 ≤ a) (hd : decode k.bytes pc = .ok (.lastore, 1)) (hp : pc + 1 = pc') (g : ∀ T' h', On k Z n0 E T' h' cells slots → Wr h h' a j.toNatClampNeg (.long x) → Go E G (Fm E T' pc' Ls st)) : Go E G (Fm E T pc Ls (.long x :: .int j :: .ref a :: st)) := by
  obtain ⟨C, hh, L, a1, b1, ha, hb1, hF, X⟩ := W
  subst hp
  obtain ⟨T', h', X', e', W', st'⟩ := stJ X C.1 C.2.2.2.2.2.2.1 hh A hj (g := mkF E.m pc Ls (.long x :: .int j :: .ref a :: st)) rfl rfl (hb C.2.1 hd)
  exact (g T' h' ⟨C, e', _, a1, b1, ha, hb1, Fr.snoc X' hF hn0, X'⟩ W').step st'
theorem go_stC (W : On k Z n0 E T h cells slots) {a : Addr} {cl : Cell} (A : Arr Z h a cl .char) {j : Int32} {x : Int32} (hj : ¬ (j < 0 ∨ cl.slots.size ≤ j.toNatClampNeg)) (hn0 : n0 ≤ a) (hd : decode k.bytes pc = .ok (.castore, 1)) (hp : pc + 1 = pc') (g : ∀ T' h', On k Z n0 E T' h' cells slots → Wr h h' a j.toNatClampNeg (.int (nar .char x)) → Go E G (Fm E T' pc' Ls st)) : Go E G (Fm E T pc Ls (.int x :: .int j :: .ref a :: st)) := by
  obtain ⟨C, hh, L, a1, b1, ha, hb1, hF, X⟩ := W
  subst hp
  obtain ⟨T', h', X', e', W', st'⟩ := stC X C.1 C.2.2.2.2.2.2.1 hh A hj (g := mkF E.m pc Ls (.int x :: .int j :: .ref a :: st)) rfl rfl (hb C.2.1 hd)
  exact (g T' h' ⟨C, e', _, a1, b1, ha, hb1, Fr.snoc X' hF hn0, X'⟩ W').step st'
theorem go_stB (W : On k Z n0 E T h cells slots) {a : Addr} {cl : Cell} (A : Arr Z h a cl .byte) {j : Int32} {x : Int32} (hj : ¬ (j < 0 ∨ cl.slots.size ≤ j.toNatClampNeg)) (hn0 : n0 ≤ a) (hd : decode k.bytes pc = .ok (.bastore, 1)) (hp : pc + 1 = pc') (g : ∀ T' h', On k Z n0 E T' h' cells slots → Wr h h' a j.toNatClampNeg (.int (nar .byte x)) → Go E G (Fm E T' pc' Ls st)) : Go E G (Fm E T pc Ls (.int x :: .int j :: .ref a :: st)) := by
  obtain ⟨C, hh, L, a1, b1, ha, hb1, hF, X⟩ := W
  subst hp
  obtain ⟨T', h', X', e', W', st'⟩ := stB X C.1 C.2.2.2.2.2.2.1 hh A hj (g := mkF E.m pc Ls (.int x :: .int j :: .ref a :: st)) rfl rfl (hb C.2.1 hd)
  exact (g T' h' ⟨C, e', _, a1, b1, ha, hb1, Fr.snoc X' hF hn0, X'⟩ W').step st'
theorem go_stZ (W : On k Z n0 E T h cells slots) {a : Addr} {cl : Cell} (A : Arr Z h a cl .boolean) {j : Int32} {x : Int32} (hj : ¬ (j < 0 ∨ cl.slots.size ≤ j.toNatClampNeg)) (hn0 : n0 ≤ a) (hd : decode k.bytes pc = .ok (.bastore, 1)) (hp : pc + 1 = pc') (g : ∀ T' h', On k Z n0 E T' h' cells slots → Wr h h' a j.toNatClampNeg (.int (nar .boolean x)) → Go E G (Fm E T' pc' Ls st)) : Go E G (Fm E T pc Ls (.int x :: .int j :: .ref a :: st)) := by
  obtain ⟨C, hh, L, a1, b1, ha, hb1, hF, X⟩ := W
  subst hp
  obtain ⟨T', h', X', e', W', st'⟩ := stZ X C.1 C.2.2.2.2.2.2.1 hh A hj (g := mkF E.m pc Ls (.int x :: .int j :: .ref a :: st)) rfl rfl (hb C.2.1 hd)
  exact (g T' h' ⟨C, e', _, a1, b1, ha, hb1, Fr.snoc X' hF hn0, X'⟩ W').step st'
theorem go_iaload (W : On k Z n0 E T h cells slots) {a : Addr} {cl : Cell} (A : Arr Z h a cl .int) {j : Int32} {v : Value} (hj : ¬ (j < 0 ∨ cl.slots.size ≤ j.toNatClampNeg)) (hat : cl.slots[j.toNatClampNeg]? = some v) (hd : decode k.bytes pc = .ok (.iaload, 1)) (hp : pc + 1 = pc') (g : Go E G (Fm E T pc' Ls (v :: st))) : Go E G (Fm E T pc Ls (.int j :: .ref a :: st)) := by
  obtain ⟨C, hh, L, a1, b1, ha, hb1, hF, X⟩ := W
  subst hp
  exact g.step fun t r => X.iaload C.1 (j := j) (v := v) (by rw [hh]; exact A.1) (State.isArrayOf_alike C.2.2.2.2.2.2.1.alike A.2.1) A.2.2 hj hat (g := mkF E.m pc Ls (.int j :: .ref a :: st)) rfl rfl (hb C.2.1 hd) _ r
theorem go_laload (W : On k Z n0 E T h cells slots) {a : Addr} {cl : Cell} (A : Arr Z h a cl .long) {j : Int32} {v : Value} (hj : ¬ (j < 0 ∨ cl.slots.size ≤ j.toNatClampNeg)) (hat : cl.slots[j.toNatClampNeg]? = some v) (hd : decode k.bytes pc = .ok (.laload, 1)) (hp : pc + 1 = pc') (g : Go E G (Fm E T pc' Ls (v :: st))) : Go E G (Fm E T pc Ls (.int j :: .ref a :: st)) := by
  obtain ⟨C, hh, L, a1, b1, ha, hb1, hF, X⟩ := W
  subst hp
  exact g.step fun t r => X.laload C.1 (j := j) (v := v) (by rw [hh]; exact A.1) (State.isArrayOf_alike C.2.2.2.2.2.2.1.alike A.2.1) A.2.2 hj hat (g := mkF E.m pc Ls (.int j :: .ref a :: st)) rfl rfl (hb C.2.1 hd) _ r
theorem go_caload (W : On k Z n0 E T h cells slots) {a : Addr} {cl : Cell} (A : Arr Z h a cl .char) {j : Int32} {v : Value} (hj : ¬ (j < 0 ∨ cl.slots.size ≤ j.toNatClampNeg)) (hat : cl.slots[j.toNatClampNeg]? = some v) (hd : decode k.bytes pc = .ok (.caload, 1)) (hp : pc + 1 = pc') (g : Go E G (Fm E T pc' Ls (v :: st))) : Go E G (Fm E T pc Ls (.int j :: .ref a :: st)) := by
  obtain ⟨C, hh, L, a1, b1, ha, hb1, hF, X⟩ := W
  subst hp
  exact g.step fun t r => X.caload C.1 (j := j) (v := v) (by rw [hh]; exact A.1) (State.isArrayOf_alike C.2.2.2.2.2.2.1.alike A.2.1) A.2.2 hj hat (g := mkF E.m pc Ls (.int j :: .ref a :: st)) rfl rfl (hb C.2.1 hd) _ r
theorem go_baload (W : On k Z n0 E T h cells slots) {a : Addr} {cl : Cell} (A : Arr Z h a cl .byte) {j : Int32} {v : Value} (hj : ¬ (j < 0 ∨ cl.slots.size ≤ j.toNatClampNeg)) (hat : cl.slots[j.toNatClampNeg]? = some v) (hd : decode k.bytes pc = .ok (.baload, 1)) (hp : pc + 1 = pc') (g : Go E G (Fm E T pc' Ls (v :: st))) : Go E G (Fm E T pc Ls (.int j :: .ref a :: st)) := by
  obtain ⟨C, hh, L, a1, b1, ha, hb1, hF, X⟩ := W
  subst hp
  exact g.step fun t r => X.baloadBytes C.1 (j := j) (v := v) (by rw [hh]; exact A.1) (State.isArrayOf_alike C.2.2.2.2.2.2.1.alike A.2.1) A.2.2 hj hat (g := mkF E.m pc Ls (.int j :: .ref a :: st)) rfl rfl (hb C.2.1 hd) _ r
theorem go_aaload (W : On k Z n0 E T h cells slots) {a : Addr} {cl : Cell} {ty : FieldType} (A : Arr Z h a cl ty) (hty : ty.isReference = true) {j : Int32} {v : Value} (hj : ¬ (j < 0 ∨ cl.slots.size ≤ j.toNatClampNeg)) (hat : cl.slots[j.toNatClampNeg]? = some v) (hd : decode k.bytes pc = .ok (.aaload, 1)) (hp : pc + 1 = pc') (g : Go E G (Fm E T pc' Ls (v :: st))) : Go E G (Fm E T pc Ls (.int j :: .ref a :: st)) := by
  obtain ⟨C, hh, L, a1, b1, ha, hb1, hF, X⟩ := W
  subst hp
  exact g.step fun t r => X.aaload C.1 (j := j) (v := v) (by rw [hh]; exact A.1) (State.isArrayOf_alike C.2.2.2.2.2.2.1.alike A.2.1) hty A.2.2 hj hat (g := mkF E.m pc Ls (.int j :: .ref a :: st)) rfl rfl (hb C.2.1 hd) _ r
/-! the end -/
def EndQ (s : State) (n0 : Nat) (Q : Option Value → Heap → Prop) (C N : Nat) : State → Outcome → Prop := fun t o => ∃ v L, o = .returned v ∧ (Q v t.heap ∧ Fr n0 L) ∧ FrameEnd s o t L C N
/-- a method's contract: from the heap h0, with these arguments, it returns, and Q holds of what it hands back and of the heap that it leaves -/
def Ct (l : Launch) (Z : State) (k : Mt) (as' : Array Value) (h0 : Heap) (n0 : Nat) (Q : Option Value → Heap → Prop) : Prop :=
  ∀ ws, MetFree l k.y (head1 (Cond.code k.y k.bytes k.maxL k.ret :: ws) k.rm) (fun a U => a = as' ∧ Z.Warmed39 U.vm ∧ U.heap = h0) (fun _ _ _ _ _ => True) (fun _ U o U' => ∃ v L, o = .returned v ∧ (Q v U'.heap ∧ Fr n0 L) ∧ FrameEnd U o U' L k.rm.cells k.rm.slots)
theorem Ct.of {l : Launch} {as' : Array Value} {h0 : Heap} {Q : Option Value → Heap → Prop} (hpl : plainFor k.y = true) (ef : ∀ m, entryFrame m as' k.maxL = mkF m 0 Ls []) (body : ∀ (E : Cx) (T : State), On k Z n0 E T h0 0 0 → Go E (EndQ E.s n0 Q k.rm.cells k.rm.slots) (Fm E T 0 Ls [])) : Ct l Z k as' h0 n0 Q := fun ws => by
  refine MetFree.of_bodySF hpl hisR ?_
  intro p e s m args below meth c s₁ Bd hml0 hP hK
  obtain ⟨rfl, hZ, hh⟩ := hP
  have X0 : Stand p l e k.rm s m args below meth c s₁ [] 0 0 := Stand.of_body Bd
  obtain ⟨s₂, o, h1, h2, h3, h4⟩ := body (p, l, e, s, m, args, below, meth, c) s₁ ⟨⟨Bd.exec, Bd.bytes, hml0, findClass_of_methodNamed Bd.named, Bd.returns, Bd.notSynchronized, hZ, (name_of_methodNamed Bd.named Bd.method).1, Bd.named⟩, by rw [← hh, Bd.state]; rfl, [], 0, 0, Nat.le_refl _, Nat.le_refl _, Fr.nil n0, X0⟩
  exact ⟨s₂, o, castTop (ef m) h1, h2, h3, h4⟩
theorem Ct.mono {l : Launch} {as' : Array Value} {h0 : Heap} {Q Q' : Option Value → Heap → Prop} (c : Ct l Z k as' h0 n0 Q) (q : ∀ v h, Q v h → Q' v h) : Ct l Z k as' h0 n0 Q' := fun ws p e ha hc hk s m args below hf happ hP hK => by
  obtain ⟨n, o, h1, h2, h3, v, L, h4, h5, h6⟩ := c ws p e ha hc hk s m args below hf happ hP hK
  exact ⟨n, o, h1, h2, h3, v, L, h4, ⟨q _ _ h5.1, h5.2⟩, h6⟩
theorem go_ret (W : On k Z n0 E T h cells slots) {Q : Option Value → Heap → Prop} {C N : Nat} {w : Value} {t : FieldType} {i : Instr} (hret : k.ret = some t) (hn : narrow t w = w)
    (hi : (i = .ireturn ∧ (t = .int ∨ t = .boolean ∨ t = .byte ∨ t = .char ∨ t = .short) ∧ ∃ z, w = .int z) ∨ (i = .lreturn ∧ t = .long ∧ ∃ z, w = .long z) ∨ (i = .dreturn ∧ t = .double ∧ ∃ z, w = .double z) ∨ (i = .freturn ∧ t = .float ∧ ∃ z, w = .float z) ∨ (i = .areturn ∧ t.isReference = true ∧ w.isRef = true))
    (hd : decode k.bytes pc = .ok (i, 1)) (hC : cells ≤ C) (hN : slots ≤ N) (hq : Q (some w) h) : Go E (EndQ E.s n0 Q C N) (Fm E T pc Ls (w :: st)) := by
  obtain ⟨⟨c1, c2, c3, c4, c5, c6, c7, c8, c9⟩, hh, L, a1, b1, ha, hb1, hF, X⟩ := W
  have hr : E.meth.sig.returnType = some t := c5.trans hret
  obtain ⟨fs, hr', hrun, hended, hW, hsame⟩ := X.leave (v := some w) (fun h => by rw [hr] at h; cases h) c6
  exact ⟨_, _, retOut X c1 hr hn hi (hb c2 hd) hr', hrun, hended, some w, L, rfl, ⟨by show Q (some w) T.heap; rw [hh]; exact hq, hF⟩, ⟨_, rfl⟩, hW, hsame.mono (Nat.le_trans ha hC) (Nat.le_trans hb1 hN)⟩
theorem go_retI (W : On k Z n0 E T h cells slots) {Q : Option Value → Heap → Prop} {C N : Nat} {w : Int32} {t : FieldType} (hret : k.ret = some t) (ht : t = .int ∨ t = .boolean ∨ t = .byte ∨ t = .char ∨ t = .short) (hn : narrow t (.int w) = .int w) (hd : decode k.bytes pc = .ok (.ireturn, 1)) (hC : cells ≤ C) (hN : slots ≤ N) (hq : Q (some (.int w)) h) : Go E (EndQ E.s n0 Q C N) (Fm E T pc Ls (.int w :: st)) :=
  go_ret W hret hn (Or.inl ⟨rfl, ht, _, rfl⟩) hd hC hN hq
theorem go_retL (W : On k Z n0 E T h cells slots) {Q : Option Value → Heap → Prop} {C N : Nat} {w : Int64} (hret : k.ret = some .long) (hd : decode k.bytes pc = .ok (.lreturn, 1)) (hC : cells ≤ C) (hN : slots ≤ N) (hq : Q (some (.long w)) h) : Go E (EndQ E.s n0 Q C N) (Fm E T pc Ls (.long w :: st)) :=
  go_ret W hret rfl (Or.inr (Or.inl ⟨rfl, rfl, _, rfl⟩)) hd hC hN hq
theorem go_retA (W : On k Z n0 E T h cells slots) {Q : Option Value → Heap → Prop} {C N : Nat} {w : Value} {t : FieldType} (hret : k.ret = some t) (ht : t.isReference = true) (hw : w.isRef = true) (hn : narrow t w = w) (hd : decode k.bytes pc = .ok (.areturn, 1)) (hC : cells ≤ C) (hN : slots ≤ N) (hq : Q (some w) h) : Go E (EndQ E.s n0 Q C N) (Fm E T pc Ls (w :: st)) :=
  go_ret W hret hn (Or.inr (Or.inr (Or.inr (Or.inr ⟨rfl, ht, hw⟩)))) hd hC hN hq
theorem go_retV (W : On k Z n0 E T h cells slots) {Q : Option Value → Heap → Prop} {C N : Nat} (hret : k.ret = none) (hd : decode k.bytes pc = .ok (.return_, 1)) (hC : cells ≤ C) (hN : slots ≤ N) (hq : Q none h) : Go E (EndQ E.s n0 Q C N) (Fm E T pc Ls []) := by
  obtain ⟨⟨c1, c2, c3, c4, c5, c6, c7, c8, c9⟩, hh, L, a1, b1, ha, hb1, hF, X⟩ := W
  have hr : E.meth.sig.returnType = none := c5.trans hret
  obtain ⟨fs, hr', hrun, hended, hW, hsame⟩ := X.leave (v := none) (fun _ => rfl) c6
  exact ⟨_, _, X.returnOut c1 hr (hb c2 hd) hr', hrun, hended, none, L, rfl, ⟨by show Q none T.heap; rw [hh]; exact hq, hF⟩, ⟨_, rfl⟩, hW, hsame.mono (Nat.le_trans ha hC) (Nat.le_trans hb1 hN)⟩
/-! calls: by the callee's contract -/
theorem Ct.back {kc : Mt} {as' : Array Value} {Q : Option Value → Heap → Prop} (c : Ct E.l Z kc as' h n0 Q) (hZ : Z.Warmed39 E.s.vm) (wc : (Cond.code kc.y kc.bytes kc.maxL kc.ret).before a0 Z = true) (wz : (Cond.initialized kc.y.cls).before a0 Z = true) {W len : Nat} (hf : kc.rm.frames + 1 ≤ k.rm.frames) (hl : W + (kc.maxL + 11) + kc.rm.locals ≤ k.rm.locals) :
    Back E.l k.rm E.p E.e E.below E.s E.args kc.y len W (fun A a => a = as' ∧ A.U.heap = h ∧ A.cells + kc.rm.cells ≤ k.rm.cells ∧ A.slots + kc.rm.slots ≤ k.rm.slots)
      (fun A _ v B => ∃ L, (Q v B.U.heap ∧ Fr n0 L) ∧ B.locs = A.locs ++ L ∧ B.cells = A.cells + kc.rm.cells ∧ B.slots = A.slots + kc.rm.slots) :=
  backOf (Q := fun v h L => Q v h ∧ Fr n0 L) (c []) hZ wc wz hf hl
theorem go_callS (W : On k Z n0 E T h cells slots) {kc : Mt} {index : Nat} {argsL rest : List Value} {ps : List FieldType} {r : Option FieldType} {Q : Option Value → Heap → Prop} (w1 : (Cond.methodLink k.y.cls index kc.y).before a0 Z = true) (w2 : (Cond.static kc.y).before a0 Z = true) (w3 : (Cond.initialized kc.y.cls).before a0 Z = true) (w4 : (Cond.code kc.y kc.bytes kc.maxL kc.ret).before a0 Z = true)
    (c : Ct E.l Z kc argsL.toArray h n0 Q) (hy : kc.y.cls ≠ "java/lang/invoke/MethodHandle" ∧ kc.y.cls ≠ "java/lang/invoke/VarHandle") (hdesc : parseMethodDescriptor kc.y.desc = some ⟨ps, r⟩) (hlen : argsL.length = ps.length) (hst : st = argsL.reverse ++ rest) (hm : Ls.size = k.maxL)
    (hf : kc.rm.frames + 1 ≤ k.rm.frames) (hl : (rest.map fun v => v.category).sum + (kc.maxL + 11) + kc.rm.locals ≤ k.rm.locals) (hcl : cells + kc.rm.cells ≤ k.rm.cells) (hsl : slots + kc.rm.slots ≤ k.rm.slots) (hd : decode k.bytes pc = .ok (.invokestatic index, 3)) (hp : pc + 3 = pc')
    (g : ∀ v T' h', Q v h' → On k Z n0 E T' h' (cells + kc.rm.cells) (slots + kc.rm.slots) → Go E G (Fm E T' pc' Ls (v.toList ++ rest))) : Go E G (Fm E T pc Ls st) := by
  obtain ⟨C, hh, L, a1, b1, ha, hb1, hF, X⟩ := W
  subst hp
  have hZ := C.2.2.2.2.2.2.1
  obtain ⟨v, _, ⟨T', L', k', n'⟩, -, X', ⟨Lc, hQ, l', y', z'⟩, st'⟩ := Jvm.LawKit.callS X C.1 (y := kc.y) C.2.2.2.1 (mvT hZ w1) (mvT hZ w2) (mvT hZ w3) (mvT hZ w4) hy (c.back (k := k) (W := (rest.map fun v => v.category).sum) hZ w4 w3 hf hl) (g := mkF E.m pc Ls st) rfl (hm.trans C.2.2.1.symm) (argsL := argsL) (rest := rest) (lenOf hdesc hlen) hst (by show 2 * 0 + _ ≤ _; omega) (hb C.2.1 hd) (fun _ _ => ⟨rfl, hh, Nat.le_trans (Nat.add_le_add_right ha _) hcl, Nat.le_trans (Nat.add_le_add_right hb1 _) hsl⟩)
  dsimp only [Pt.U, Pt.locs, Pt.cells, Pt.slots] at X' l' y' z' st' hQ
  subst l' y' z'
  exact (g v T' _ hQ.1 ⟨C, rfl, _, _, _, Nat.add_le_add_right ha _, Nat.add_le_add_right hb1 _, Fr.app hF hQ.2, X'⟩).step st'
theorem go_callN (W : On k Z n0 E T h cells slots) {kc : Mt} {index : Nat} {a : Addr} {argsL rest : List Value} {ps : List FieldType} {r : Option FieldType} {Q : Option Value → Heap → Prop} (w1 : (Cond.methodLink k.y.cls index kc.y).before a0 Z = true) (w2 : (Cond.instanceMethod kc.y).before a0 Z = true) (w3 : (Cond.initialized kc.y.cls).before a0 Z = true) (w4 : (Cond.code kc.y kc.bytes kc.maxL none).before a0 Z = true)
    (c : Ct E.l Z kc (.ref a :: argsL).toArray h n0 Q) (hi : kc.y.name = "<init>") (hrt : kc.ret = none) (hy : kc.y.cls ≠ "java/lang/invoke/MethodHandle" ∧ kc.y.cls ≠ "java/lang/invoke/VarHandle") (hdesc : parseMethodDescriptor kc.y.desc = some ⟨ps, r⟩) (hlen : argsL.length = ps.length) (hst : st = argsL.reverse ++ .ref a :: rest) (hm : Ls.size = k.maxL)
    (hf : kc.rm.frames + 1 ≤ k.rm.frames) (hl : (rest.map fun v => v.category).sum + (kc.maxL + 11) + kc.rm.locals ≤ k.rm.locals) (hcl : cells + kc.rm.cells ≤ k.rm.cells) (hsl : slots + kc.rm.slots ≤ k.rm.slots) (hd : decode k.bytes pc = .ok (.invokespecial index, 3)) (hp : pc + 3 = pc')
    (g : ∀ v T' h', Q v h' → On k Z n0 E T' h' (cells + kc.rm.cells) (slots + kc.rm.slots) → Go E G (Fm E T' pc' Ls (v.toList ++ rest))) : Go E G (Fm E T pc Ls st) := by
  obtain ⟨C, hh, L, a1, b1, ha, hb1, hF, X⟩ := W
  subst hp
  have hZ := C.2.2.2.2.2.2.1
  obtain ⟨v, _, ⟨T', L', k', n'⟩, -, X', ⟨Lc, hQ, l', y', z'⟩, st'⟩ := X.specialBack C.1 (y := kc.y) hi C.2.2.2.1 (mvT hZ w1) (mvT hZ w2) (mvT hZ w4) hy (c.back (k := k) (W := (rest.map fun v => v.category).sum) hZ (hrt ▸ w4) w3 hf hl) (g := mkF E.m pc Ls st) rfl (hm.trans C.2.2.1.symm) (Steps.refl _) (a := a) (argsL := argsL) (rest := rest) (lenOf hdesc hlen) hst (by show 2 * 0 + _ ≤ _; omega) (hb C.2.1 hd) (fun _ _ => ⟨rfl, hh, Nat.le_trans (Nat.add_le_add_right ha _) hcl, Nat.le_trans (Nat.add_le_add_right hb1 _) hsl⟩)
  dsimp only [Pt.U, Pt.locs, Pt.cells, Pt.slots] at X' l' y' z' st' hQ
  subst l' y' z'
  exact (g v T' _ hQ.1 ⟨C, rfl, _, _, _, Nat.add_le_add_right ha _, Nat.add_le_add_right hb1 _, Fr.app hF hQ.2, X'⟩).step fun t q => st'.trans q
theorem go_callV (W : On k Z n0 E T h cells slots) {kc : Mt} {y : MethodName} {K : String} {index : Nat} {a : Addr} {argsL rest : List Value} {ps : List FieldType} {r : Option FieldType} {Q : Option Value → Heap → Prop} (w1 : (Cond.methodLink k.y.cls index y).before a0 Z = true) (w2 : (Cond.declares y).before a0 Z = true) (nf : NotFace E.s y) (w3 : (Cond.selects K y kc.y).before a0 Z = true) (w4 : (Cond.instanceMethod kc.y).before a0 Z = true) (w5 : (Cond.initialized kc.y.cls).before a0 Z = true) (w6 : (Cond.code kc.y kc.bytes kc.maxL kc.ret).before a0 Z = true)
    (Ex : Exa Z h a K) (c : Ct E.l Z kc (.ref a :: argsL).toArray h n0 Q) (hy : y.cls ≠ "java/lang/invoke/MethodHandle" ∧ y.cls ≠ "java/lang/invoke/VarHandle") (hdesc : parseMethodDescriptor y.desc = some ⟨ps, r⟩) (hlen : argsL.length = ps.length) (hst : st = argsL.reverse ++ .ref a :: rest) (hm : Ls.size = k.maxL)
    (hf : kc.rm.frames + 1 ≤ k.rm.frames) (hl : (rest.map fun v => v.category).sum + (kc.maxL + 11) + kc.rm.locals ≤ k.rm.locals) (hcl : cells + kc.rm.cells ≤ k.rm.cells) (hsl : slots + kc.rm.slots ≤ k.rm.slots) (hd : decode k.bytes pc = .ok (.invokevirtual index, 3)) (hp : pc + 3 = pc')
    (g : ∀ v T' h', Q v h' → On k Z n0 E T' h' (cells + kc.rm.cells) (slots + kc.rm.slots) → Go E G (Fm E T' pc' Ls (v.toList ++ rest))) : Go E G (Fm E T pc Ls st) := by
  obtain ⟨C, hh, L, a1, b1, ha, hb1, hF, X⟩ := W
  subst hp
  have hZ := C.2.2.2.2.2.2.1
  obtain ⟨cq, kq, qa, qb, qc⟩ := isOf (T := T) hZ hh Ex
  obtain ⟨v, _, ⟨T', L', k', n'⟩, -, X', ⟨Lc, hQ, l', y', z'⟩, st'⟩ := X.virtualBack C.1 (y := y) (z := kc.y) C.2.2.2.1 (mvT hZ w1) (mvT hZ w2) nf (mvT hZ w3) (mvT hZ w4) hy (c.back (k := k) (W := (rest.map fun v => v.category).sum) hZ w6 w5 hf hl) qa qc (g := mkF E.m pc Ls st) rfl (hm.trans C.2.2.1.symm) (Steps.refl _) (argsL := argsL) (rest := rest) (lenOf hdesc hlen) hst (by show 2 * 0 + _ ≤ _; omega) (hb C.2.1 hd) (fun _ _ => ⟨rfl, hh, Nat.le_trans (Nat.add_le_add_right ha _) hcl, Nat.le_trans (Nat.add_le_add_right hb1 _) hsl⟩)
  dsimp only [Pt.U, Pt.locs, Pt.cells, Pt.slots] at X' l' y' z' st' hQ
  subst l' y' z'
  exact (g v T' _ hQ.1 ⟨C, rfl, _, _, _, Nat.add_le_add_right ha _, Nat.add_le_add_right hb1 _, Fr.app hF hQ.2, X'⟩).step fun t q => st'.trans q
theorem nf_sel (W : On k Z n0 E T h cells slots) {y : MethodName} (w : (Cond.selects y.cls y y).before a0 Z = true) : NotFace E.s y := notFace_of_selects (args := #[]) (mvT W.hZ w)
theorem nf_sup (W : On k Z n0 E T h cells slots) {y : MethodName} {S : String} (w : (Cond.superclass y.cls S).before a0 Z = true) : NotFace E.s y := nf_super (args := #[]) (mvT W.hZ w)

theorem go_instNo (W : On k Z n0 E T h cells slots) {K C : String} {index : Nat} (w : (Cond.classLink k.y.cls index K).before a0 Z = true) {a : Addr} (Ex : Exa Z h a C) (F : ∃ c t, Z.vm.findClass C = some c ∧ Z.vm.findClass K = some t ∧ Z.vm.assignable c t = false) (hd : decode k.bytes pc = .ok (.instanceof index, 3)) (hp : pc + 3 = pc') (g : ∀ T', On k Z n0 E T' h cells slots → Go E G (Fm E T' pc' Ls (.int 0 :: st))) : Go E G (Fm E T pc Ls (.ref a :: st)) := by
  obtain ⟨C, hh, L, a1, b1, ha, hb1, hF, X⟩ := W
  subst hp
  obtain ⟨T', X', e', st'⟩ := instNo X C.1 C.2.2.2.2.2.2.1 C.2.2.2.1 w hh Ex F (g := mkF E.m pc Ls (.ref a :: st)) rfl rfl (hb C.2.1 hd)
  exact (g T' ⟨C, e', L, a1, b1, ha, hb1, hF, X'⟩).step st'
theorem go_instNull (W : On k Z n0 E T h cells slots) {index : Nat} (hd : decode k.bytes pc = .ok (.instanceof index, 3)) (hp : pc + 3 = pc') (g : Go E G (Fm E T pc' Ls (.int 0 :: st))) : Go E G (Fm E T pc Ls (.null :: st)) := by
  obtain ⟨C, hh, L, a1, b1, ha, hb1, hF, X⟩ := W
  subst hp
  exact g.step (X.instanceofNull C.1 (g := mkF E.m pc Ls (.null :: st)) rfl rfl (hb C.2.1 hd))
theorem go_castNull (W : On k Z n0 E T h cells slots) {index : Nat} (hd : decode k.bytes pc = .ok (.checkcast index, 3)) (hp : pc + 3 = pc') (g : Go E G (Fm E T pc' Ls (.null :: st))) : Go E G (Fm E T pc Ls (.null :: st)) := by
  obtain ⟨C, hh, L, a1, b1, ha, hb1, hF, X⟩ := W
  subst hp
  exact g.step (X.checkcastNull C.1 (g := mkF E.m pc Ls (.null :: st)) rfl rfl (hb C.2.1 hd))
theorem go_putFN (W : On k Z n0 E T h cells slots) {R0 O n d K : String} {index kk : Nat} {ty : FieldType} (w : (Cond.fieldLink k.y.cls index R0 n d).before a0 Z = true) (via : Via Z R0 O n d) {a : Addr} {v v' old : Value} (F : Fld Z h a O n d old) (Ex : Exa Z h a K)
    (L : (Cond.lays K O n d).before a0 Z = true ∨ ((Cond.laysFinal K O n d).before a0 Z = true ∧ k.y.cls = O ∧ k.y.name = "<init>")) (wi : (Cond.instantiable K kk).before a0 Z = true) (hty : parseFieldDescriptor d = some ty) (hn : narrow ty v = v') (hf : fits ty v' = true) (hn0 : n0 ≤ a)
    (hd : decode k.bytes pc = .ok (.putfield index, 3)) (hp : pc + 3 = pc') (g : ∀ T' h', On k Z n0 E T' h' cells slots → Wr h h' a (Jvm.RoadKit.slotOf Z O n d) v' → Go E G (Fm E T' pc' Ls st)) : Go E G (Fm E T pc Ls (v :: .ref a :: st)) := by
  obtain ⟨C, hh, Lc, a1, b1, ha, hb1, hF, X⟩ := W
  subst hp
  obtain ⟨T', h', X', e', W', st'⟩ := putFN X C.1 C.2.2.2.2.2.2.1 C.2.2.2.1 w via hh F Ex (L.imp id fun q => ⟨q.1, q.2.1, C.2.2.2.2.2.2.2.1.trans q.2.2⟩) wi hty hn hf (g := mkF E.m pc Ls (v :: .ref a :: st)) rfl rfl (hb C.2.1 hd)
  exact (g T' h' ⟨C, e', _, a1, b1, ha, hb1, Fr.snoc X' hF hn0, X'⟩ W').step st'
theorem go_newR (W : On k Z n0 E T h cells slots) {K : String} {index : Nat} (w1 : (Cond.classLink k.y.cls index K).before a0 Z = true) (w2 : (Cond.arrayOver (.object K)).before a0 Z = true) {n : Int32} (hd : decode k.bytes pc = .ok (.anewarray index, 3)) (hn : ¬ n < 0) (cap : Nat) (hcap : n.toNatClampNeg ≤ cap) (hb8 : cap * 8 ≤ 536870912) (hc : cells + 1 ≤ k.rm.cells) (hl : slots + cap ≤ k.rm.slots) (hp : pc + 3 = pc')
    (g : ∀ T' h' cA a, a = h.size → On k Z n0 E T' h' (cells + 1) (slots + cap) → Ext h h' → Arr Z h' a (newA cA (.object K) n) (.object K) → Ovr Z cA K → Go E G (Fm E T' pc' Ls (.ref a :: st))) : Go E G (Fm E T pc Ls (.int n :: st)) := by
  obtain ⟨C, hh, L, a1, b1, ha, hb1, hF, X⟩ := W
  subst hp
  obtain ⟨T', h', cA, X', e', E', A', O', st'⟩ := newR X C.1 C.2.2.2.2.2.2.1 C.2.2.2.1 w1 w2 hh (g := mkF E.m pc Ls (.int n :: st)) rfl (hb C.2.1 hd) rfl hn hcap hb8 (Nat.le_trans (Nat.add_le_add_right ha 1) hc) (Nat.le_trans (Nat.add_le_add_right hb1 cap) hl)
  exact (g T' h' cA _ rfl ⟨C, e', L, _, _, Nat.add_le_add_right ha 1, Nat.add_le_add_right hb1 cap, hF, X'⟩ E' A' O').step st'
theorem go_stR (W : On k Z n0 E T h cells slots) {a : Addr} {cl : Cell} {ty : FieldType} (A : Arr Z h a cl ty) {j : Int32} {v : Value} (hj : ¬ (j < 0 ∨ cl.slots.size ≤ j.toNatClampNeg)) (hty : ty.isReference = true) (F : Sto Z h a v) (hn0 : n0 ≤ a) (hd : decode k.bytes pc = .ok (.aastore, 1)) (hp : pc + 1 = pc') (g : ∀ T' h', On k Z n0 E T' h' cells slots → Wr h h' a j.toNatClampNeg v → Go E G (Fm E T' pc' Ls st)) : Go E G (Fm E T pc Ls (v :: .int j :: .ref a :: st)) := by
  obtain ⟨C, hh, L, a1, b1, ha, hb1, hF, X⟩ := W
  subst hp
  obtain ⟨T', h', X', e', W', st'⟩ := stR X C.1 C.2.2.2.2.2.2.1 hh A hj hty F (g := mkF E.m pc Ls (v :: .int j :: .ref a :: st)) rfl rfl (hb C.2.1 hd)
  exact (g T' h' ⟨C, e', _, a1, b1, ha, hb1, Fr.snoc X' hF hn0, X'⟩ W').step st'
theorem go_newPE (W : On k Z n0 E T h cells slots) {aty : ArrayType} (w : (Cond.arrayClass (newarray.typeOf aty)).before a0 Z = true) {n : Int32} (hd : decode k.bytes pc = .ok (.newarray aty, 2)) (hn : ¬ n < 0) (cap : Nat) (hcap : n.toNatClampNeg ≤ cap) (hb8 : cap * 8 ≤ 536870912) (hc : cells + 1 ≤ k.rm.cells) (hl : slots + cap ≤ k.rm.slots) {ad : String} (had : "[" ++ (newarray.typeOf aty).toString = ad) (hp : pc + 2 = pc')
    (g : ∀ T' h' cA a, a = h.size → On k Z n0 E T' h' (cells + 1) (slots + cap) → Ext h h' → Arr Z h' a (newA cA (newarray.typeOf aty) n) (newarray.typeOf aty) → Exa Z h' a ad → Go E G (Fm E T' pc' Ls (.ref a :: st))) : Go E G (Fm E T pc Ls (.int n :: st)) := by
  obtain ⟨C, hh, L, a1, b1, ha, hb1, hF, X⟩ := W
  subst hp
  obtain ⟨T', h', cA, X', e', E', A', Q', st'⟩ := newPE X C.1 C.2.2.2.2.2.2.1 w hh (g := mkF E.m pc Ls (.int n :: st)) rfl (hb C.2.1 hd) rfl hn hcap hb8 (Nat.le_trans (Nat.add_le_add_right ha 1) hc) (Nat.le_trans (Nat.add_le_add_right hb1 cap) hl) had
  exact (g T' h' cA _ rfl ⟨C, e', L, _, _, Nat.add_le_add_right ha 1, Nat.add_le_add_right hb1 cap, hF, X'⟩ E' A' Q').step st'
theorem go_cloneA (W : On k Z n0 E T h cells slots) {ad : String} {index : Nat} (w1 : (Cond.methodLink k.y.cls index ⟨ad, "clone", "()Ljava/lang/Object;"⟩).before a0 Z = true) (w2 : (Cond.sameMethod ad "java/lang/Object" "clone" "()Ljava/lang/Object;").before a0 Z = true) (w3 : (Cond.native ⟨"java/lang/Object", "clone", "()Ljava/lang/Object;"⟩).before a0 Z = true)
    (w4 : (Cond.instanceMethod ⟨"java/lang/Object", "clone", "()Ljava/lang/Object;"⟩).before a0 Z = true) (w5 : (Cond.selects ad ⟨ad, "clone", "()Ljava/lang/Object;"⟩ ⟨"java/lang/Object", "clone", "()Ljava/lang/Object;"⟩).before a0 Z = true) (w6 : (Cond.castable ad "java/lang/Cloneable").before a0 Z = true)
    {a : Addr} {cl : Cell} {ty : FieldType} (A : Arr Z h a cl ty) (Ex : Exa Z h a ad) (F : FitC Z cl) (hd : decode k.bytes pc = .ok (.invokevirtual index, 3)) (hm : Ls.size = k.maxL) (hf : 1 ≤ k.rm.frames) (hl : (st.map fun v => v.category).sum + 14 ≤ k.rm.locals) (cap : Nat) (hcap : cl.slots.size ≤ cap) (hc : cells + 1 ≤ k.rm.cells) (hsl : slots + cap ≤ k.rm.slots) (hp : pc + 3 = pc')
    (g : ∀ T' h' b, b = h.size → On k Z n0 E T' h' (cells + 1) (slots + cap) → Ext h h' → Arr Z h' b (cloneOf cl) ty → Exa Z h' b ad → Go E G (Fm E T' pc' Ls (.ref b :: st))) : Go E G (Fm E T pc Ls (.ref a :: st)) := by
  obtain ⟨C, hh, L, a1, b1, ha, hb1, hF, X⟩ := W
  subst hp
  obtain ⟨T', h', X', e', E', A', Q', st'⟩ := cloneA X C.1 C.2.2.2.2.2.2.1 C.2.2.2.1 w1 w2 w3 w4 w5 w6 hh A Ex F (g := mkF E.m pc Ls (.ref a :: st)) rfl (hm.trans C.2.2.1.symm) rfl (hb C.2.1 hd) hf (W := (st.map fun v => v.category).sum) (by show 2 * 0 + _ ≤ _; omega) hl hcap (Nat.le_trans (Nat.add_le_add_right ha 1) hc) (Nat.le_trans (Nat.add_le_add_right hb1 cap) hsl)
  exact (g T' h' _ rfl ⟨C, e', L, _, _, Nat.add_le_add_right ha 1, Nat.add_le_add_right hb1 cap, hF, X'⟩ E' A' Q').step st'
theorem go_lamConst (W : On k Z n0 E T h cells slots) {index : Nat} {sh : Lambda.Shape} (w : (Cond.lambdaSite k.y pc index sh).before a0 Z = true) (hcap : sh.captured = []) (hd : decode k.bytes pc = .ok (.invokedynamic index, 5)) (hm : Ls.size = k.maxL) (hl : (st.map fun v => v.category).sum + 3072 ≤ k.rm.locals) (hp : pc + 5 = pc') (g : ∀ a : Addr, Go E G (Fm E T pc' Ls (.ref a :: st))) : Go E G (Fm E T pc Ls st) := by
  obtain ⟨C, hh, L, a1, b1, ha, hb1, hF, X⟩ := W
  subst hp
  have hZ := C.2.2.2.2.2.2.1
  obtain ⟨cK, one, hat⟩ := Cond.lambdaSite_spec w
  obtain ⟨mD, kD, cfD, i0, p0, lk, hmD, hkD, -, -, -, hfind, -, -, hl'⟩ := State.lambdaAt?_spec hat
  have hn : Z.methodNamed? k.y = some E.m := by
    have q : (Z.setVm E.s.vm).methodNamed? k.y = some E.m := C.2.2.2.2.2.2.2.2
    rw [State.methodNamed?_setVm hZ.alike] at q; exact q
  cases hn.symm.trans hmD
  obtain ⟨k', q1, q2⟩ := hZ.alike.2.2 _ _ hkD
  rcases hl' with ⟨a, cell, rfl, -⟩ | ⟨-, -, hne⟩
  · have hw : E.e.platform.lambdaLinkWords = 3072 := by rw [X.admits.platform]
    exact (g a).step fun t r => X.lambdaConstant C.1 (g := mkF E.m pc Ls st) rfl (hm.trans C.2.2.1.symm) (hb C.2.1 hd) q1 (by rw [q2]; exact hfind) (by rw [hw]; show 2 * 0 + (st.map fun v => v.category).sum + 3072 ≤ _; omega) r
  · exact absurd hcap hne
theorem go_lsw (W : On k Z n0 E T h cells slots) {dflt : Int} {prs : Array (Int × Int)} {len : Nat} {i : Int32} (hd : decode k.bytes pc = .ok (.lookupswitch dflt prs, len)) (hsrt : ∀ a b a_1 b_1 : Int, ((a, b), a_1, b_1) ∈ prs.toList.zip prs.toList.tail → a < a_1) (ho : 0 ≤ (pc : Int) + lookupswitch.offset prs.toList dflt i.toInt) (hp : ((pc : Int) + lookupswitch.offset prs.toList dflt i.toInt).toNat = pc') (g : Go E G (Fm E T pc' Ls st)) : Go E G (Fm E T pc Ls (.int i :: st)) := by
  subst hp
  refine g.step fun t r => ?_
  have q := W.here; have hx := W.exec; have hd' := hb W.bytes hd
  show Steps E.p.tables E.e E.below (T.setTop { method := E.m, pc := pc, locals := Ls, stack := .int i :: st, locked := none }) t
  jvm_step q [q.top, hx, hd', ho, lookupswitch.wp_chain]
  exact ⟨hsrt, r⟩
theorem Sta.kept {h' : Heap} {C n d : String} {v : Value} (S : Sta Z h C n d v) (K : Keep h h' []) : Sta Z h' C n d v := by
  obtain ⟨cf, i, k, f, st, cell, h1, h2, h3, h4, h5, r⟩ := S; exact ⟨cf, i, k, f, st, cell, h1, h2, h3, h4, K.2.1 _ _ h5 nin0, r⟩
theorem Arr.kept {h' : Heap} {a : Addr} {c : Cell} {ty : FieldType} (A : Arr Z h a c ty) (K : Keep h h' []) : Arr Z h' a c ty := ⟨K.2.1 _ _ A.1 nin0, A.2⟩
theorem Keep.ext0 {h' : Heap} {ws : List Addr} (K : Keep h h' ws) (q : ∀ x ∈ ws, h.size ≤ x) : Ext h h' := ⟨K.1, fun a c e => K.2.1 a c e fun y => absurd (Array.getElem?_eq_some_iff.mp e).1 (Nat.not_lt.mpr (q a y))⟩
theorem Keep.nil {h' : Heap} {ws : List Addr} (K : Keep h h' ws) (q : ∀ x ∈ ws, h.size ≤ x) : Keep h h' [] := ⟨K.1, fun a c e _ => (Keep.ext0 K q).2 a c e, K.2.2⟩
/-! an array by a function -/
def Af (Z : State) (h : Heap) (a : Addr) (ty : FieldType) (n : Nat) (f : Nat → Value) : Prop := ∃ c : Cell, Arr Z h a c ty ∧ c.slots.size = n ∧ ∀ i, i < n → c.slots[i]? = some (f i)
theorem Af.lt {a : Addr} {ty : FieldType} {n : Nat} {f : Nat → Value} (F : Af Z h a ty n f) : a < h.size := by obtain ⟨c, A, -⟩ := F; exact A.lt
theorem Af.ext {h' : Heap} {a : Addr} {ty : FieldType} {n : Nat} {f : Nat → Value} (F : Af Z h a ty n f) (X : Ext h h') : Af Z h' a ty n f := by obtain ⟨c, A, r⟩ := F; exact ⟨c, A.ext X, r⟩
theorem Af.other {h' : Heap} {a b : Addr} {sl : Nat} {v : Value} {ty : FieldType} {n : Nat} {f : Nat → Value} (F : Af Z h b ty n f) (W : Wr h h' a sl v) (q : b ≠ a) : Af Z h' b ty n f := by obtain ⟨c, A, r⟩ := F; exact ⟨c, A.other W q, r⟩
theorem Af.keep {h' : Heap} {a : Addr} {ws : List Addr} {ty : FieldType} {n : Nat} {f : Nat → Value} (F : Af Z h a ty n f) (K : Keep h h' ws) (q : a ∉ ws) : Af Z h' a ty n f := by obtain ⟨c, A, r⟩ := F; exact ⟨c, ⟨K.2.1 a c A.1 q, A.2⟩, r⟩
theorem Af.congr {a : Addr} {ty : FieldType} {n : Nat} {f f' : Nat → Value} (F : Af Z h a ty n f) (q : ∀ i, i < n → f i = f' i) : Af Z h a ty n f' := by obtain ⟨c, A, r1, r2⟩ := F; exact ⟨c, A, r1, fun i hi => by rw [r2 i hi, q i hi]⟩
theorem Af.new {a : Addr} {ty : FieldType} {cA : ClassId} {z : Int32} {n : Nat} (A : Arr Z h a (newA cA ty z) ty) (q : z.toNatClampNeg = n) : Af Z h a ty n (fun _ => defaultValue ty) := ⟨_, A, by rw [sz_new]; exact q, fun i hi => by subst q; simp [newA, hi]⟩
theorem Af.set {h' : Heap} {a : Addr} {v : Value} {ty : FieldType} {n : Nat} {f : Nat → Value} {i : Nat} (F : Af Z h a ty n f) (W : Wr h h' a i v) (hi : i < n) : Af Z h' a ty n (fun j => if j = i then v else f j) := by
  obtain ⟨c, A, r1, r2⟩ := F
  refine ⟨_, A.same W, by rw [sz_set]; exact r1, fun j hj => ?_⟩
  by_cases e : j = i
  · subst e; simp [Cell.setSlot, r1, hi]
  · show _ = some (if j = i then v else f j)
    rw [if_neg e, ← r2 j hj]; exact Array.getElem?_setIfInBounds_ne (Ne.symm e)
theorem Af.at {a : Addr} {ty : FieldType} {n : Nat} {f : Nat → Value} {j : Int32} {i : Nat} (F : Af Z h a ty n f) (hj : j.toInt = (i : Int)) (hi : i < n) : j.toNatClampNeg = i ∧ ∃ c : Cell, Arr Z h a c ty ∧ ¬ (j < 0 ∨ c.slots.size ≤ j.toNatClampNeg) ∧ c.slots[j.toNatClampNeg]? = some (f i) := by
  obtain ⟨c, A, r1, r2⟩ := F
  have e : j.toNatClampNeg = i := by simp only [Int32.toNatClampNeg]; omega
  refine ⟨e, c, A, ?_, by rw [e]; exact r2 i hi⟩
  rw [e, r1, Int32.lt_iff_toInt_lt, hj]
  simp only [Int32.reduceToInt]; omega
theorem Af.len {a : Addr} {ty : FieldType} {n : Nat} {f : Nat → Value} (F : Af Z h a ty n f) : ∃ c : Cell, Arr Z h a c ty ∧ c.slots.size = n := by obtain ⟨c, A, r1, -⟩ := F; exact ⟨c, A, r1⟩
theorem Af.fitC {a : Addr} {ty : FieldType} {n : Nat} {f : Nat → Value} (F : Af Z h a ty n f) (q : ∀ i, i < n → fits ty (f i) = true) : ∃ c : Cell, Arr Z h a c ty ∧ c.slots.size = n ∧ FitC Z c ∧ ∀ i, i < n → c.slots[i]? = some (f i) := by
  obtain ⟨c, A, r1, r2⟩ := F
  refine ⟨c, A, r1, fitC_of A fun i hi v hv => ?_, r2⟩
  rw [r1] at hi
  rw [r2 i hi] at hv
  cases hv; exact q i hi
theorem go_cloneF (W : On k Z n0 E T h cells slots) {ad : String} {index : Nat} (w1 : (Cond.methodLink k.y.cls index ⟨ad, "clone", "()Ljava/lang/Object;"⟩).before a0 Z = true) (w2 : (Cond.sameMethod ad "java/lang/Object" "clone" "()Ljava/lang/Object;").before a0 Z = true) (w3 : (Cond.native ⟨"java/lang/Object", "clone", "()Ljava/lang/Object;"⟩).before a0 Z = true)
    (w4 : (Cond.instanceMethod ⟨"java/lang/Object", "clone", "()Ljava/lang/Object;"⟩).before a0 Z = true) (w5 : (Cond.selects ad ⟨ad, "clone", "()Ljava/lang/Object;"⟩ ⟨"java/lang/Object", "clone", "()Ljava/lang/Object;"⟩).before a0 Z = true) (w6 : (Cond.castable ad "java/lang/Cloneable").before a0 Z = true)
    {a : Addr} {ty : FieldType} {n : Nat} {f : Nat → Value} (F : Af Z h a ty n f) (hfit : ∀ i, i < n → fits ty (f i) = true) (Ex : Exa Z h a ad) (hd : decode k.bytes pc = .ok (.invokevirtual index, 3)) (hm : Ls.size = k.maxL) (hf : 1 ≤ k.rm.frames) (hl : (st.map fun v => v.category).sum + 14 ≤ k.rm.locals) (hc : cells + 1 ≤ k.rm.cells) (hsl : slots + n ≤ k.rm.slots) (hp : pc + 3 = pc')
    (g : ∀ T' h' b, b = h.size → On k Z n0 E T' h' (cells + 1) (slots + n) → Ext h h' → Af Z h' b ty n f → Exa Z h' b ad → Go E G (Fm E T' pc' Ls (.ref b :: st))) : Go E G (Fm E T pc Ls (.ref a :: st)) := by
  obtain ⟨c, A, r1, FC, r2⟩ := F.fitC hfit
  exact go_cloneA W w1 w2 w3 w4 w5 w6 A Ex FC hd hm hf hl n (Nat.le_of_eq r1) hc hsl hp fun T' h' b e W' E' A' Q' => g T' h' b e W' E' ⟨_, A', r1, r2⟩ Q'
theorem go_lenF (W : On k Z n0 E T h cells slots) {a : Addr} {ty : FieldType} {n : Nat} {f : Nat → Value} {z : Int32} (F : Af Z h a ty n f) (hz : n.toInt32 = z) (hd : decode k.bytes pc = .ok (.arraylength, 1)) (hp : pc + 1 = pc') (g : Go E G (Fm E T pc' Ls (.int z :: st))) : Go E G (Fm E T pc Ls (.ref a :: st)) := by
  obtain ⟨c, A, r⟩ := F.len
  exact go_arraylength W A (by rw [r]; exact hz) hd hp g
theorem go_stIF (W : On k Z n0 E T h cells slots) {a : Addr} {n : Nat} {f : Nat → Value} {j : Int32} {i : Nat} {x : Int32} (F : Af Z h a .int n f) (hj : j.toInt = (i : Int)) (hi : i < n) (hn0 : n0 ≤ a) (hd : decode k.bytes pc = .ok (.iastore, 1)) (hp : pc + 1 = pc') (g : ∀ T' h', On k Z n0 E T' h' cells slots → Wr h h' a i (.int x) → Af Z h' a .int n (fun j => if j = i then (.int x) else f j) → Go E G (Fm E T' pc' Ls st)) : Go E G (Fm E T pc Ls (.int x :: .int j :: .ref a :: st)) := by
  obtain ⟨e, c, A, q, -⟩ := F.at hj hi
  exact go_stI W A q hn0 hd hp fun T' h' W' R => g T' h' W' (e ▸ R) (F.set (e ▸ R) hi)
theorem go_stJF (W : On k Z n0 E T h cells slots) {a : Addr} {n : Nat} {f : Nat → Value} {j : Int32} {i : Nat} {x : Int64} (F : Af Z h a .long n f) (hj : j.toInt = (i : Int)) (hi : i < n) (hn0 : n0 ≤ a) (hd : decode k.bytes pc = .ok (.lastore, 1)) (hp : pc + 1 = pc') (g : ∀ T' h', On k Z n0 E T' h' cells slots → Wr h h' a i (.long x) → Af Z h' a .long n (fun j => if j = i then (.long x) else f j) → Go E G (Fm E T' pc' Ls st)) : Go E G (Fm E T pc Ls (.long x :: .int j :: .ref a :: st)) := by
  obtain ⟨e, c, A, q, -⟩ := F.at hj hi
  exact go_stJ W A q hn0 hd hp fun T' h' W' R => g T' h' W' (e ▸ R) (F.set (e ▸ R) hi)
theorem go_stCF (W : On k Z n0 E T h cells slots) {a : Addr} {n : Nat} {f : Nat → Value} {j : Int32} {i : Nat} {x : Int32} (F : Af Z h a .char n f) (hj : j.toInt = (i : Int)) (hi : i < n) (hn0 : n0 ≤ a) (hd : decode k.bytes pc = .ok (.castore, 1)) (hp : pc + 1 = pc') (g : ∀ T' h', On k Z n0 E T' h' cells slots → Wr h h' a i (.int (nar .char x)) → Af Z h' a .char n (fun j => if j = i then (.int (nar .char x)) else f j) → Go E G (Fm E T' pc' Ls st)) : Go E G (Fm E T pc Ls (.int x :: .int j :: .ref a :: st)) := by
  obtain ⟨e, c, A, q, -⟩ := F.at hj hi
  exact go_stC W A q hn0 hd hp fun T' h' W' R => g T' h' W' (e ▸ R) (F.set (e ▸ R) hi)
theorem go_stBF (W : On k Z n0 E T h cells slots) {a : Addr} {n : Nat} {f : Nat → Value} {j : Int32} {i : Nat} {x : Int32} (F : Af Z h a .byte n f) (hj : j.toInt = (i : Int)) (hi : i < n) (hn0 : n0 ≤ a) (hd : decode k.bytes pc = .ok (.bastore, 1)) (hp : pc + 1 = pc') (g : ∀ T' h', On k Z n0 E T' h' cells slots → Wr h h' a i (.int (nar .byte x)) → Af Z h' a .byte n (fun j => if j = i then (.int (nar .byte x)) else f j) → Go E G (Fm E T' pc' Ls st)) : Go E G (Fm E T pc Ls (.int x :: .int j :: .ref a :: st)) := by
  obtain ⟨e, c, A, q, -⟩ := F.at hj hi
  exact go_stB W A q hn0 hd hp fun T' h' W' R => g T' h' W' (e ▸ R) (F.set (e ▸ R) hi)
theorem go_stZF (W : On k Z n0 E T h cells slots) {a : Addr} {n : Nat} {f : Nat → Value} {j : Int32} {i : Nat} {x : Int32} (F : Af Z h a .boolean n f) (hj : j.toInt = (i : Int)) (hi : i < n) (hn0 : n0 ≤ a) (hd : decode k.bytes pc = .ok (.bastore, 1)) (hp : pc + 1 = pc') (g : ∀ T' h', On k Z n0 E T' h' cells slots → Wr h h' a i (.int (nar .boolean x)) → Af Z h' a .boolean n (fun j => if j = i then (.int (nar .boolean x)) else f j) → Go E G (Fm E T' pc' Ls st)) : Go E G (Fm E T pc Ls (.int x :: .int j :: .ref a :: st)) := by
  obtain ⟨e, c, A, q, -⟩ := F.at hj hi
  exact go_stZ W A q hn0 hd hp fun T' h' W' R => g T' h' W' (e ▸ R) (F.set (e ▸ R) hi)
theorem go_ialoadF (W : On k Z n0 E T h cells slots) {a : Addr} {n : Nat} {f : Nat → Value} {j : Int32} {i : Nat} {v : Value} (F : Af Z h a .int n f) (hj : j.toInt = (i : Int)) (hi : i < n) (hv : f i = v) (hd : decode k.bytes pc = .ok (.iaload, 1)) (hp : pc + 1 = pc') (g : Go E G (Fm E T pc' Ls (v :: st))) : Go E G (Fm E T pc Ls (.int j :: .ref a :: st)) := by
  obtain ⟨e, c, A, q, r⟩ := F.at hj hi
  exact go_iaload W A q (hv ▸ r) hd hp g
theorem go_laloadF (W : On k Z n0 E T h cells slots) {a : Addr} {n : Nat} {f : Nat → Value} {j : Int32} {i : Nat} {v : Value} (F : Af Z h a .long n f) (hj : j.toInt = (i : Int)) (hi : i < n) (hv : f i = v) (hd : decode k.bytes pc = .ok (.laload, 1)) (hp : pc + 1 = pc') (g : Go E G (Fm E T pc' Ls (v :: st))) : Go E G (Fm E T pc Ls (.int j :: .ref a :: st)) := by
  obtain ⟨e, c, A, q, r⟩ := F.at hj hi
  exact go_laload W A q (hv ▸ r) hd hp g
theorem go_caloadF (W : On k Z n0 E T h cells slots) {a : Addr} {n : Nat} {f : Nat → Value} {j : Int32} {i : Nat} {v : Value} (F : Af Z h a .char n f) (hj : j.toInt = (i : Int)) (hi : i < n) (hv : f i = v) (hd : decode k.bytes pc = .ok (.caload, 1)) (hp : pc + 1 = pc') (g : Go E G (Fm E T pc' Ls (v :: st))) : Go E G (Fm E T pc Ls (.int j :: .ref a :: st)) := by
  obtain ⟨e, c, A, q, r⟩ := F.at hj hi
  exact go_caload W A q (hv ▸ r) hd hp g
theorem go_baloadF (W : On k Z n0 E T h cells slots) {a : Addr} {n : Nat} {f : Nat → Value} {j : Int32} {i : Nat} {v : Value} (F : Af Z h a .byte n f) (hj : j.toInt = (i : Int)) (hi : i < n) (hv : f i = v) (hd : decode k.bytes pc = .ok (.baload, 1)) (hp : pc + 1 = pc') (g : Go E G (Fm E T pc' Ls (v :: st))) : Go E G (Fm E T pc Ls (.int j :: .ref a :: st)) := by
  obtain ⟨e, c, A, q, r⟩ := F.at hj hi
  exact go_baload W A q (hv ▸ r) hd hp g
theorem go_callU (W : On k Z n0 E T h cells slots) {kc : Mt} {y : MethodName} {K owner : String} {index : Nat} {a : Addr} {argsL rest : List Value} {ps : List FieldType} {r : Option FieldType} {Q : Option Value → Heap → Prop} (w1 : (Cond.methodLink k.y.cls index y).before a0 Z = true) (w2 : (Cond.sameMethod y.cls owner y.name y.desc).before a0 Z = true) (w2' : (Cond.declares ⟨owner, y.name, y.desc⟩).before a0 Z = true) (w3 : (Cond.selects K y kc.y).before a0 Z = true) (w4 : (Cond.instanceMethod kc.y).before a0 Z = true) (w5 : (Cond.initialized kc.y.cls).before a0 Z = true) (w6 : (Cond.code kc.y kc.bytes kc.maxL kc.ret).before a0 Z = true)
    (Ex : Exa Z h a K) (c : Ct E.l Z kc (.ref a :: argsL).toArray h n0 Q) (hy : owner ≠ "java/lang/invoke/MethodHandle" ∧ owner ≠ "java/lang/invoke/VarHandle") (hdesc : parseMethodDescriptor y.desc = some ⟨ps, r⟩) (hlen : argsL.length = ps.length) (hst : st = argsL.reverse ++ .ref a :: rest) (hm : Ls.size = k.maxL)
    (hf : kc.rm.frames + 1 ≤ k.rm.frames) (hl : (rest.map fun v => v.category).sum + (kc.maxL + 11) + kc.rm.locals ≤ k.rm.locals) (hcl : cells + kc.rm.cells ≤ k.rm.cells) (hsl : slots + kc.rm.slots ≤ k.rm.slots) (hd : decode k.bytes pc = .ok (.invokevirtual index, 3)) (hp : pc + 3 = pc')
    (g : ∀ v T' h', Q v h' → On k Z n0 E T' h' (cells + kc.rm.cells) (slots + kc.rm.slots) → Go E G (Fm E T' pc' Ls (v.toList ++ rest))) : Go E G (Fm E T pc Ls st) := by
  obtain ⟨C, hh, L, a1, b1, ha, hb1, hF, X⟩ := W
  subst hp
  have hZ := C.2.2.2.2.2.2.1
  obtain ⟨cq, kq, qa, qb, qc⟩ := isOf (T := T) hZ hh Ex
  obtain ⟨v, _, ⟨T', L', k', n'⟩, -, X', ⟨Lc, hQ, l', y', z'⟩, st'⟩ := X.virtualBackUp C.1 (x := y) (y := kc.y) C.2.2.2.1 (mvT hZ w1) (mvT hZ w2) (mvT hZ w2') hy (mvT hZ w3) (mvT hZ w4) (c.back (k := k) (W := (rest.map fun v => v.category).sum) hZ w6 w5 hf hl) qa qc (g := mkF E.m pc Ls st) rfl (hm.trans C.2.2.1.symm) (Steps.refl _) (argsL := argsL) (rest := rest) (lenOf hdesc hlen) hst (by show 2 * 0 + _ ≤ _; omega) (hb C.2.1 hd) (fun _ _ => ⟨rfl, hh, Nat.le_trans (Nat.add_le_add_right ha _) hcl, Nat.le_trans (Nat.add_le_add_right hb1 _) hsl⟩)
  dsimp only [Pt.U, Pt.locs, Pt.cells, Pt.slots] at X' l' y' z' st' hQ
  subst l' y' z'
  exact (g v T' _ hQ.1 ⟨C, rfl, _, _, _, Nat.add_le_add_right ha _, Nat.add_le_add_right hb1 _, Fr.app hF hQ.2, X'⟩).step fun t q => st'.trans q
theorem go_callP (W : On k Z n0 E T h cells slots) {kc : Mt} {index : Nat} {a : Addr} {K : String} {argsL rest : List Value} {ps : List FieldType} {r : Option FieldType} {Q : Option Value → Heap → Prop} (w1 : (Cond.methodLink k.y.cls index kc.y).before a0 Z = true) (w2 : (Cond.instanceMethod kc.y).before a0 Z = true) (w3 : (Cond.selects kc.y.cls kc.y kc.y).before a0 Z = true) (w4 : (Cond.privateMethod kc.y).before a0 Z = true) (w5 : (Cond.initialized kc.y.cls).before a0 Z = true) (w6 : (Cond.code kc.y kc.bytes kc.maxL kc.ret).before a0 Z = true)
    (Ex : Exa Z h a K) (c : Ct E.l Z kc (.ref a :: argsL).toArray h n0 Q) (hy : kc.y.cls ≠ "java/lang/invoke/MethodHandle" ∧ kc.y.cls ≠ "java/lang/invoke/VarHandle") (hdesc : parseMethodDescriptor kc.y.desc = some ⟨ps, r⟩) (hlen : argsL.length = ps.length) (hst : st = argsL.reverse ++ .ref a :: rest) (hm : Ls.size = k.maxL)
    (hf : kc.rm.frames + 1 ≤ k.rm.frames) (hl : (rest.map fun v => v.category).sum + (kc.maxL + 11) + kc.rm.locals ≤ k.rm.locals) (hcl : cells + kc.rm.cells ≤ k.rm.cells) (hsl : slots + kc.rm.slots ≤ k.rm.slots) (hd : decode k.bytes pc = .ok (.invokevirtual index, 3)) (hp : pc + 3 = pc')
    (g : ∀ v T' h', Q v h' → On k Z n0 E T' h' (cells + kc.rm.cells) (slots + kc.rm.slots) → Go E G (Fm E T' pc' Ls (v.toList ++ rest))) : Go E G (Fm E T pc Ls st) := by
  obtain ⟨C, hh, L, a1, b1, ha, hb1, hF, X⟩ := W
  subst hp
  have hZ := C.2.2.2.2.2.2.1
  obtain ⟨cq, q1, q2⟩ := Ex.cell
  obtain ⟨v, _, ⟨T', L', k', n'⟩, -, X', ⟨Lc, hQ, l', y', z'⟩, st'⟩ := X.privateBack C.1 (y := kc.y) C.2.2.2.1 (mvT hZ w1) (mvT hZ w2) (mvT hZ w3) (Cond.privateMethod_at (mvP hZ w4 (args := #[]))) (mvT hZ w6) hy (c.back (k := k) (W := (rest.map fun v => v.category).sum) hZ w6 w5 hf hl) (g := mkF E.m pc Ls st) rfl (hm.trans C.2.2.1.symm) (Steps.refl _) (a := a) (by rw [hh]; exact q1) q2 (argsL := argsL) (rest := rest) (lenOf hdesc hlen) hst (by show 2 * 0 + _ ≤ _; omega) (hb C.2.1 hd) (fun _ _ => ⟨rfl, hh, Nat.le_trans (Nat.add_le_add_right ha _) hcl, Nat.le_trans (Nat.add_le_add_right hb1 _) hsl⟩)
  dsimp only [Pt.U, Pt.locs, Pt.cells, Pt.slots] at X' l' y' z' st' hQ
  subst l' y' z'
  exact (g v T' _ hQ.1 ⟨C, rfl, _, _, _, Nat.add_le_add_right ha _, Nat.add_le_add_right hb1 _, Fr.app hF hQ.2, X'⟩).step fun t q => st'.trans q
theorem go_callF (W : On k Z n0 E T h cells slots) {kc : Mt} {y : MethodName} {K : String} {index count : Nat} {a : Addr} {argsL rest : List Value} {ps : List FieldType} {r : Option FieldType} {Q : Option Value → Heap → Prop} (w1 : (Cond.methodLink k.y.cls index y).before a0 Z = true) (w2 : (Cond.declares y).before a0 Z = true) (w2' : (Cond.interfaceMethod y.cls y.cls y.name y.desc).before a0 Z = true) (w3 : (Cond.selects K y kc.y).before a0 Z = true) (w4 : (Cond.instanceMethod kc.y).before a0 Z = true) (w4' : (Cond.publicMethod kc.y).before a0 Z = true) (w4'' : (Cond.unhidden K y.name y.desc).before a0 Z = true) (wk : (Cond.castable K y.cls).before a0 Z = true) (w5 : (Cond.initialized kc.y.cls).before a0 Z = true) (w6 : (Cond.code kc.y kc.bytes kc.maxL kc.ret).before a0 Z = true)
    (Ex : Exa Z h a K) (c : Ct E.l Z kc (.ref a :: argsL).toArray h n0 Q) (hy : y.cls ≠ "java/lang/invoke/MethodHandle" ∧ y.cls ≠ "java/lang/invoke/VarHandle") (hdesc : parseMethodDescriptor y.desc = some ⟨ps, r⟩) (hlen : argsL.length = ps.length) (hst : st = argsL.reverse ++ .ref a :: rest) (hm : Ls.size = k.maxL)
    (hf : kc.rm.frames + 1 ≤ k.rm.frames) (hl : (rest.map fun v => v.category).sum + (kc.maxL + 11) + kc.rm.locals ≤ k.rm.locals) (hcl : cells + kc.rm.cells ≤ k.rm.cells) (hsl : slots + kc.rm.slots ≤ k.rm.slots) (hd : decode k.bytes pc = .ok (.invokeinterface index count, 5)) (hp : pc + 5 = pc')
    (g : ∀ v T' h', Q v h' → On k Z n0 E T' h' (cells + kc.rm.cells) (slots + kc.rm.slots) → Go E G (Fm E T' pc' Ls (v.toList ++ rest))) : Go E G (Fm E T pc Ls st) := by
  obtain ⟨C, hh, L, a1, b1, ha, hb1, hF, X⟩ := W
  subst hp
  have hZ := C.2.2.2.2.2.2.1
  obtain ⟨cq, kq, qa, qb, qc⟩ := isOf (T := T) hZ hh Ex
  obtain ⟨v, _, ⟨T', L', k', n'⟩, -, X', ⟨Lc, hQ, l', y', z'⟩, st'⟩ := X.interfaceBack C.1 (xi := y) (y := kc.y) C.2.2.2.1 (mvT hZ w1) (mvT hZ w2) (mvT hZ w2' (by simp [Cond.onTables, Cond.keepsFace, Cond.keeps, Cond.steady, Cond.faceAtom, hy.1, hy.2])) (mvT hZ w3) (mvT hZ w4) (mvT hZ w4') (mvT hZ w4'') (mvT hZ wk) hy (c.back (k := k) (W := (rest.map fun v => v.category).sum) hZ w6 w5 hf hl) qa qb qc (g := mkF E.m pc Ls st) rfl (hm.trans C.2.2.1.symm) (Steps.refl _) (argsL := argsL) (rest := rest) (lenOf hdesc hlen) hst (by show 2 * 0 + _ ≤ _; omega) (hb C.2.1 hd) (fun _ _ => ⟨rfl, hh, Nat.le_trans (Nat.add_le_add_right ha _) hcl, Nat.le_trans (Nat.add_le_add_right hb1 _) hsl⟩)
  dsimp only [Pt.U, Pt.locs, Pt.cells, Pt.slots] at X' l' y' z' st' hQ
  subst l' y' z'
  exact (g v T' _ hQ.1 ⟨C, rfl, _, _, _, Nat.add_le_add_right ha _, Nat.add_le_add_right hb1 _, Fr.app hF hQ.2, X'⟩).step fun t q => st'.trans q
end
end Jvm.GoKit
namespace Jvm.Pilot.@@N@@
open Jvm Jvm.ClassFile Sem Op Lib Jvm.Free Jvm.Stand Jvm.LawKit Jvm.RoadKit Bundle Jvm.GoKit Jvm.Pilot.@@N@@.Jvm.D
abbrev Hw (a0 : Array Value) (Z : State) : Prop := ∀ d ∈ tables_1, d.before a0 Z = true
theorem w0 {a0 : Array Value} {Z : State} (hw : Hw a0 Z) : (Jvm.Cond.classLink "com/example/hornstone/hornstone/rdf/BlankNodeEqualsPinLaw" (7 : Nat) "com/example/hornstone/hornstone/rdf/BlankNode").before a0 Z = true := hw _ (List.mem_of_getElem? (i := 0) rfl)
theorem w1 {a0 : Array Value} {Z : State} (hw : Hw a0 Z) : (Jvm.Cond.instantiable "com/example/hornstone/hornstone/rdf/BlankNode" (1 : Nat)).before a0 Z = true := hw _ (List.mem_of_getElem? (i := 1) rfl)
theorem w2 {a0 : Array Value} {Z : State} (hw : Hw a0 Z) : (Jvm.Cond.initialized "com/example/hornstone/hornstone/rdf/BlankNode").before a0 Z = true := hw _ (List.mem_of_getElem? (i := 2) rfl)
theorem w3 {a0 : Array Value} {Z : State} (hw : Hw a0 Z) : (Jvm.Cond.methodLink "com/example/hornstone/hornstone/rdf/BlankNodeEqualsPinLaw" (9 : Nat) ({ cls := "com/example/hornstone/hornstone/rdf/BlankNode", name := "<init>", desc := "(J)V" } : Jvm.MethodName)).before a0 Z = true := hw _ (List.mem_of_getElem? (i := 3) rfl)
theorem w4 {a0 : Array Value} {Z : State} (hw : Hw a0 Z) : (Jvm.Cond.instanceMethod ({ cls := "com/example/hornstone/hornstone/rdf/BlankNode", name := "<init>", desc := "(J)V" } : Jvm.MethodName)).before a0 Z = true := hw _ (List.mem_of_getElem? (i := 4) rfl)
theorem w5 {a0 : Array Value} {Z : State} (hw : Hw a0 Z) : (Jvm.Cond.code ({ cls := "com/example/hornstone/hornstone/rdf/BlankNode", name := "<init>", desc := "(J)V" } : Jvm.MethodName) prog_81_method_1_code (3 : Nat) (Option.none : Option Jvm.ClassFile.FieldType)).before a0 Z = true := hw _ (List.mem_of_getElem? (i := 5) rfl)
theorem w6 {a0 : Array Value} {Z : State} (hw : Hw a0 Z) : (Jvm.Cond.methodLink "com/example/hornstone/hornstone/rdf/BlankNode" (1 : Nat) ({ cls := "java/lang/Record", name := "<init>", desc := "()V" } : Jvm.MethodName)).before a0 Z = true := hw _ (List.mem_of_getElem? (i := 6) rfl)
theorem w7 {a0 : Array Value} {Z : State} (hw : Hw a0 Z) : (Jvm.Cond.instanceMethod ({ cls := "java/lang/Record", name := "<init>", desc := "()V" } : Jvm.MethodName)).before a0 Z = true := hw _ (List.mem_of_getElem? (i := 7) rfl)
theorem w9 {a0 : Array Value} {Z : State} (hw : Hw a0 Z) : (Jvm.Cond.initialized "java/lang/Record").before a0 Z = true := hw _ (List.mem_of_getElem? (i := 9) rfl)
theorem w10 {a0 : Array Value} {Z : State} (hw : Hw a0 Z) : (Jvm.Cond.code ({ cls := "java/lang/Record", name := "<init>", desc := "()V" } : Jvm.MethodName) jdk_30_method_1_code (1 : Nat) (Option.none : Option Jvm.ClassFile.FieldType)).before a0 Z = true := hw _ (List.mem_of_getElem? (i := 10) rfl)
theorem w11 {a0 : Array Value} {Z : State} (hw : Hw a0 Z) : (Jvm.Cond.methodLink "java/lang/Record" (1 : Nat) ({ cls := "java/lang/Object", name := "<init>", desc := "()V" } : Jvm.MethodName)).before a0 Z = true := hw _ (List.mem_of_getElem? (i := 11) rfl)
theorem w12 {a0 : Array Value} {Z : State} (hw : Hw a0 Z) : (Jvm.Cond.instanceMethod ({ cls := "java/lang/Object", name := "<init>", desc := "()V" } : Jvm.MethodName)).before a0 Z = true := hw _ (List.mem_of_getElem? (i := 12) rfl)
theorem w13 {a0 : Array Value} {Z : State} (hw : Hw a0 Z) : (Jvm.Cond.code ({ cls := "java/lang/Object", name := "<init>", desc := "()V" } : Jvm.MethodName) object_method_1_code (1 : Nat) (Option.none : Option Jvm.ClassFile.FieldType)).before a0 Z = true := hw _ (List.mem_of_getElem? (i := 13) rfl)
theorem w14 {a0 : Array Value} {Z : State} (hw : Hw a0 Z) : (Jvm.Cond.fieldLink "com/example/hornstone/hornstone/rdf/BlankNode" (7 : Nat) "com/example/hornstone/hornstone/rdf/BlankNode" "id" "J").before a0 Z = true := hw _ (List.mem_of_getElem? (i := 14) rfl)
theorem w15 {a0 : Array Value} {Z : State} (hw : Hw a0 Z) : (Jvm.Cond.laysFinal "com/example/hornstone/hornstone/rdf/BlankNode" "com/example/hornstone/hornstone/rdf/BlankNode" "id" "J").before a0 Z = true := hw _ (List.mem_of_getElem? (i := 15) rfl)
theorem w16 {a0 : Array Value} {Z : State} (hw : Hw a0 Z) : (Jvm.Cond.methodLink "com/example/hornstone/hornstone/rdf/BlankNodeEqualsPinLaw" (12 : Nat) ({ cls := "java/lang/Long", name := "valueOf", desc := "(J)Ljava/lang/Long;" } : Jvm.MethodName)).before a0 Z = true := hw _ (List.mem_of_getElem? (i := 16) rfl)
theorem w17 {a0 : Array Value} {Z : State} (hw : Hw a0 Z) : (Jvm.Cond.static ({ cls := "java/lang/Long", name := "valueOf", desc := "(J)Ljava/lang/Long;" } : Jvm.MethodName)).before a0 Z = true := hw _ (List.mem_of_getElem? (i := 17) rfl)
theorem w18 {a0 : Array Value} {Z : State} (hw : Hw a0 Z) : (Jvm.Cond.initialized "java/lang/Long").before a0 Z = true := hw _ (List.mem_of_getElem? (i := 18) rfl)
theorem w19 {a0 : Array Value} {Z : State} (hw : Hw a0 Z) : (Jvm.Cond.code ({ cls := "java/lang/Long", name := "valueOf", desc := "(J)Ljava/lang/Long;" } : Jvm.MethodName) jdk_35_method_24_code (3 : Nat) (Option.some (Jvm.ClassFile.FieldType.object "java/lang/Long"))).before a0 Z = true := hw _ (List.mem_of_getElem? (i := 19) rfl)
theorem w20 {a0 : Array Value} {Z : State} (hw : Hw a0 Z) : (Jvm.Cond.constantLong "java/lang/Long" (230 : Nat) (-128 : Int64)).before a0 Z = true := hw _ (List.mem_of_getElem? (i := 20) rfl)
theorem w21 {a0 : Array Value} {Z : State} (hw : Hw a0 Z) : (Jvm.Cond.constantLong "java/lang/Long" (232 : Nat) (127 : Int64)).before a0 Z = true := hw _ (List.mem_of_getElem? (i := 21) rfl)
theorem w22 {a0 : Array Value} {Z : State} (hw : Hw a0 Z) : (Jvm.Cond.fieldLink "java/lang/Long" (234 : Nat) "java/lang/Long$LongCache" "cache" "[Ljava/lang/Long;").before a0 Z = true := hw _ (List.mem_of_getElem? (i := 22) rfl)
theorem w24 {a0 : Array Value} {Z : State} (hw : Hw a0 Z) : (Jvm.Cond.methodLink "com/example/hornstone/hornstone/rdf/BlankNodeEqualsPinLaw" (18 : Nat) ({ cls := "com/example/hornstone/hornstone/rdf/BlankNode", name := "equals", desc := "(Ljava/lang/Object;)Z" } : Jvm.MethodName)).before a0 Z = true := hw _ (List.mem_of_getElem? (i := 24) rfl)
theorem w25 {a0 : Array Value} {Z : State} (hw : Hw a0 Z) : (Jvm.Cond.declares ({ cls := "com/example/hornstone/hornstone/rdf/BlankNode", name := "equals", desc := "(Ljava/lang/Object;)Z" } : Jvm.MethodName)).before a0 Z = true := hw _ (List.mem_of_getElem? (i := 25) rfl)
theorem w26 {a0 : Array Value} {Z : State} (hw : Hw a0 Z) : (Jvm.Cond.instanceMethod ({ cls := "com/example/hornstone/hornstone/rdf/BlankNode", name := "equals", desc := "(Ljava/lang/Object;)Z" } : Jvm.MethodName)).before a0 Z = true := hw _ (List.mem_of_getElem? (i := 26) rfl)
theorem w27 {a0 : Array Value} {Z : State} (hw : Hw a0 Z) : (Jvm.Cond.selects "com/example/hornstone/hornstone/rdf/BlankNode" ({ cls := "com/example/hornstone/hornstone/rdf/BlankNode", name := "equals", desc := "(Ljava/lang/Object;)Z" } : Jvm.MethodName) ({ cls := "com/example/hornstone/hornstone/rdf/BlankNode", name := "equals", desc := "(Ljava/lang/Object;)Z" } : Jvm.MethodName)).before a0 Z = true := hw _ (List.mem_of_getElem? (i := 27) rfl)
theorem w28 {a0 : Array Value} {Z : State} (hw : Hw a0 Z) : (Jvm.Cond.code ({ cls := "com/example/hornstone/hornstone/rdf/BlankNode", name := "equals", desc := "(Ljava/lang/Object;)Z" } : Jvm.MethodName) prog_81_method_2_code (3 : Nat) (Option.some Jvm.ClassFile.FieldType.boolean)).before a0 Z = true := hw _ (List.mem_of_getElem? (i := 28) rfl)
theorem w29 {a0 : Array Value} {Z : State} (hw : Hw a0 Z) : (Jvm.Cond.classLink "com/example/hornstone/hornstone/rdf/BlankNode" (8 : Nat) "com/example/hornstone/hornstone/rdf/BlankNode").before a0 Z = true := hw _ (List.mem_of_getElem? (i := 29) rfl)
theorem w30 {a0 : Array Value} {Z : State} (hw : Hw a0 Z) : (Jvm.Cond.superclass "java/lang/Long" "java/lang/Number").before a0 Z = true := hw _ (List.mem_of_getElem? (i := 30) rfl)
theorem w31 {a0 : Array Value} {Z : State} (hw : Hw a0 Z) : (Jvm.Cond.superclass "java/lang/Number" "java/lang/Object").before a0 Z = true := hw _ (List.mem_of_getElem? (i := 31) rfl)
theorem w32 {a0 : Array Value} {Z : State} (hw : Hw a0 Z) : (Jvm.Cond.noSuperclass "java/lang/Object").before a0 Z = true := hw _ (List.mem_of_getElem? (i := 32) rfl)
theorem w34 {a0 : Array Value} {Z : State} (hw : Hw a0 Z) : (Jvm.Cond.classLink "java/lang/Long" (1 : Nat) "java/lang/Long").before a0 Z = true := hw _ (List.mem_of_getElem? (i := 34) rfl)
theorem w35 {a0 : Array Value} {Z : State} (hw : Hw a0 Z) : (Jvm.Cond.instantiable "java/lang/Long" (1 : Nat)).before a0 Z = true := hw _ (List.mem_of_getElem? (i := 35) rfl)
theorem w36 {a0 : Array Value} {Z : State} (hw : Hw a0 Z) : (Jvm.Cond.methodLink "java/lang/Long" (240 : Nat) ({ cls := "java/lang/Long", name := "<init>", desc := "(J)V" } : Jvm.MethodName)).before a0 Z = true := hw _ (List.mem_of_getElem? (i := 36) rfl)
theorem w37 {a0 : Array Value} {Z : State} (hw : Hw a0 Z) : (Jvm.Cond.instanceMethod ({ cls := "java/lang/Long", name := "<init>", desc := "(J)V" } : Jvm.MethodName)).before a0 Z = true := hw _ (List.mem_of_getElem? (i := 37) rfl)
theorem w39 {a0 : Array Value} {Z : State} (hw : Hw a0 Z) : (Jvm.Cond.code ({ cls := "java/lang/Long", name := "<init>", desc := "(J)V" } : Jvm.MethodName) jdk_35_method_26_code (3 : Nat) (Option.none : Option Jvm.ClassFile.FieldType)).before a0 Z = true := hw _ (List.mem_of_getElem? (i := 39) rfl)
theorem w40 {a0 : Array Value} {Z : State} (hw : Hw a0 Z) : (Jvm.Cond.methodLink "java/lang/Long" (270 : Nat) ({ cls := "java/lang/Number", name := "<init>", desc := "()V" } : Jvm.MethodName)).before a0 Z = true := hw _ (List.mem_of_getElem? (i := 40) rfl)
theorem w41 {a0 : Array Value} {Z : State} (hw : Hw a0 Z) : (Jvm.Cond.instanceMethod ({ cls := "java/lang/Number", name := "<init>", desc := "()V" } : Jvm.MethodName)).before a0 Z = true := hw _ (List.mem_of_getElem? (i := 41) rfl)
theorem w44 {a0 : Array Value} {Z : State} (hw : Hw a0 Z) : (Jvm.Cond.initialized "java/lang/Number").before a0 Z = true := hw _ (List.mem_of_getElem? (i := 44) rfl)
theorem w45 {a0 : Array Value} {Z : State} (hw : Hw a0 Z) : (Jvm.Cond.code ({ cls := "java/lang/Number", name := "<init>", desc := "()V" } : Jvm.MethodName) jdk_18_method_1_code (1 : Nat) (Option.none : Option Jvm.ClassFile.FieldType)).before a0 Z = true := hw _ (List.mem_of_getElem? (i := 45) rfl)
theorem w46 {a0 : Array Value} {Z : State} (hw : Hw a0 Z) : (Jvm.Cond.methodLink "java/lang/Number" (1 : Nat) ({ cls := "java/lang/Object", name := "<init>", desc := "()V" } : Jvm.MethodName)).before a0 Z = true := hw _ (List.mem_of_getElem? (i := 46) rfl)
theorem w47 {a0 : Array Value} {Z : State} (hw : Hw a0 Z) : (Jvm.Cond.fieldLink "java/lang/Long" (273 : Nat) "java/lang/Long" "value" "J").before a0 Z = true := hw _ (List.mem_of_getElem? (i := 47) rfl)
theorem w48 {a0 : Array Value} {Z : State} (hw : Hw a0 Z) : (Jvm.Cond.laysFinal "java/lang/Long" "java/lang/Long" "value" "J").before a0 Z = true := hw _ (List.mem_of_getElem? (i := 48) rfl)
theorem pd0 : parseMethodDescriptor "()V" = some ⟨[], none⟩ := by decide +kernel
theorem pd1 : parseMethodDescriptor "(J)V" = some ⟨[.long], none⟩ := by decide +kernel
theorem pd2 : parseMethodDescriptor "(J)Ljava/lang/Long;" = some ⟨[.long], some (.object "java/lang/Long")⟩ := by decide +kernel
theorem pd3 : parseMethodDescriptor "(Ljava/lang/Object;)Z" = some ⟨[(.object "java/lang/Object")], some .boolean⟩ := by decide +kernel
abbrev K0 : Mt := (x, code, maxLocals, ret, room_1)
def K1 : Mt := (⟨"com/example/hornstone/hornstone/rdf/BlankNode", "<init>", "(J)V"⟩, prog_81_method_1_code, 3, none, ⟨2, 0, 0, 30⟩)
def K2 : Mt := (⟨"java/lang/Record", "<init>", "()V"⟩, jdk_30_method_1_code, 1, none, ⟨1, 0, 0, 12⟩)
def K4 : Mt := (⟨"java/lang/Long", "valueOf", "(J)Ljava/lang/Long;"⟩, jdk_35_method_24_code, 3, some (.object "java/lang/Long"), ⟨3, 1, 1, 60⟩)
def K5 : Mt := (⟨"com/example/hornstone/hornstone/rdf/BlankNode", "equals", "(Ljava/lang/Object;)Z"⟩, prog_81_method_2_code, 3, some .boolean, ⟨0, 0, 0, 0⟩)
def K6 : Mt := (⟨"java/lang/Long", "<init>", "(J)V"⟩, jdk_35_method_26_code, 3, none, ⟨2, 0, 0, 30⟩)
def K7 : Mt := (⟨"java/lang/Number", "<init>", "()V"⟩, jdk_18_method_1_code, 1, none, ⟨1, 0, 0, 12⟩)
theorem d0_0 : decode K0.bytes 0 = .ok (.iload 4, 2) := at_0
theorem d0_2 : decode K0.bytes 2 = .ok (.iconst 1, 1) := at_2
theorem d0_3 : decode K0.bytes 3 = .ok (.iand, 1) := at_3
theorem d0_4 : decode K0.bytes 4 = .ok (.ifCond .eq 7, 3) := at_4
theorem d0_7 : decode K0.bytes 7 = .ok (.lload_n 0, 1) := at_7
theorem d0_8 : decode K0.bytes 8 = .ok (.goto 4, 3) := at_8
theorem d0_11 : decode K0.bytes 11 = .ok (.lload_n 2, 1) := at_11
theorem d0_12 : decode K0.bytes 12 = .ok (.lstore 5, 2) := at_12
theorem d0_14 : decode K0.bytes 14 = .ok (.new 7, 3) := at_14
theorem d0_17 : decode K0.bytes 17 = .ok (.dup, 1) := at_17
theorem d0_18 : decode K0.bytes 18 = .ok (.lload_n 0, 1) := at_18
theorem d0_19 : decode K0.bytes 19 = .ok (.invokespecial 9, 3) := at_19
theorem d0_22 : decode K0.bytes 22 = .ok (.astore 7, 2) := at_22
theorem d0_24 : decode K0.bytes 24 = .ok (.new 7, 3) := at_24
theorem d0_27 : decode K0.bytes 27 = .ok (.dup, 1) := at_27
theorem d0_28 : decode K0.bytes 28 = .ok (.lload 5, 2) := at_28
theorem d0_30 : decode K0.bytes 30 = .ok (.invokespecial 9, 3) := at_30
theorem d0_33 : decode K0.bytes 33 = .ok (.astore 8, 2) := at_33
theorem d0_35 : decode K0.bytes 35 = .ok (.lload_n 0, 1) := at_35
theorem d0_36 : decode K0.bytes 36 = .ok (.invokestatic 12, 3) := at_36
theorem d0_39 : decode K0.bytes 39 = .ok (.astore 9, 2) := at_39
theorem d0_41 : decode K0.bytes 41 = .ok (.lload_n 0, 1) := at_41
theorem d0_42 : decode K0.bytes 42 = .ok (.lload 5, 2) := at_42
theorem d0_44 : decode K0.bytes 44 = .ok (.lcmp, 1) := at_44
theorem d0_45 : decode K0.bytes 45 = .ok (.ifCond .ne 7, 3) := at_45
theorem d0_48 : decode K0.bytes 48 = .ok (.iconst 1, 1) := at_48
theorem d0_49 : decode K0.bytes 49 = .ok (.goto 4, 3) := at_49
theorem d0_52 : decode K0.bytes 52 = .ok (.iconst 0, 1) := at_52
theorem d0_53 : decode K0.bytes 53 = .ok (.istore 10, 2) := at_53
theorem d0_55 : decode K0.bytes 55 = .ok (.aload 7, 2) := at_55
theorem d0_57 : decode K0.bytes 57 = .ok (.aload 7, 2) := at_57
theorem d0_59 : decode K0.bytes 59 = .ok (.invokevirtual 18, 3) := at_59
theorem d0_62 : decode K0.bytes 62 = .ok (.istore 11, 2) := at_62
theorem d0_64 : decode K0.bytes 64 = .ok (.aload 7, 2) := at_64
theorem d0_66 : decode K0.bytes 66 = .ok (.aconst_null, 1) := at_66
theorem d0_67 : decode K0.bytes 67 = .ok (.invokevirtual 18, 3) := at_67
theorem d0_70 : decode K0.bytes 70 = .ok (.istore 12, 2) := at_70
theorem d0_72 : decode K0.bytes 72 = .ok (.aload 7, 2) := at_72
theorem d0_74 : decode K0.bytes 74 = .ok (.aload 9, 2) := at_74
theorem d0_76 : decode K0.bytes 76 = .ok (.invokevirtual 18, 3) := at_76
theorem d0_79 : decode K0.bytes 79 = .ok (.istore 13, 2) := at_79
theorem d0_81 : decode K0.bytes 81 = .ok (.aload 7, 2) := at_81
theorem d0_83 : decode K0.bytes 83 = .ok (.aload 8, 2) := at_83
theorem d0_85 : decode K0.bytes 85 = .ok (.invokevirtual 18, 3) := at_85
theorem d0_88 : decode K0.bytes 88 = .ok (.istore 14, 2) := at_88
theorem d0_90 : decode K0.bytes 90 = .ok (.aload 8, 2) := at_90
theorem d0_92 : decode K0.bytes 92 = .ok (.aload 7, 2) := at_92
theorem d0_94 : decode K0.bytes 94 = .ok (.invokevirtual 18, 3) := at_94
theorem d0_97 : decode K0.bytes 97 = .ok (.istore 15, 2) := at_97
theorem d0_99 : decode K0.bytes 99 = .ok (.iload 11, 2) := at_99
theorem d0_101 : decode K0.bytes 101 = .ok (.ifCond .eq 31, 3) := at_101
theorem d0_104 : decode K0.bytes 104 = .ok (.iload 12, 2) := at_104
theorem d0_106 : decode K0.bytes 106 = .ok (.ifCond .ne 26, 3) := at_106
theorem d0_109 : decode K0.bytes 109 = .ok (.iload 13, 2) := at_109
theorem d0_111 : decode K0.bytes 111 = .ok (.ifCond .ne 21, 3) := at_111
theorem d0_114 : decode K0.bytes 114 = .ok (.iload 14, 2) := at_114
theorem d0_116 : decode K0.bytes 116 = .ok (.iload 10, 2) := at_116
theorem d0_118 : decode K0.bytes 118 = .ok (.if_icmp .ne 14, 3) := at_118
theorem d0_121 : decode K0.bytes 121 = .ok (.iload 15, 2) := at_121
theorem d0_123 : decode K0.bytes 123 = .ok (.iload 10, 2) := at_123
theorem d0_125 : decode K0.bytes 125 = .ok (.if_icmp .ne 7, 3) := at_125
theorem d0_128 : decode K0.bytes 128 = .ok (.iconst 1, 1) := at_128
theorem d0_129 : decode K0.bytes 129 = .ok (.goto 4, 3) := at_129
theorem d0_133 : decode K0.bytes 133 = .ok (.ireturn, 1) := at_133
theorem d1_0 : decode K1.bytes 0 = .ok (.aload_n 0, 1) := by decide +kernel
theorem d1_1 : decode K1.bytes 1 = .ok (.invokespecial 1, 3) := by decide +kernel
theorem d1_4 : decode K1.bytes 4 = .ok (.aload_n 0, 1) := by decide +kernel
theorem d1_5 : decode K1.bytes 5 = .ok (.lload_n 1, 1) := by decide +kernel
theorem d1_6 : decode K1.bytes 6 = .ok (.putfield 7, 3) := by decide +kernel
theorem d1_9 : decode K1.bytes 9 = .ok (.return_, 1) := by decide +kernel
theorem d2_0 : decode K2.bytes 0 = .ok (.aload_n 0, 1) := by decide +kernel
theorem d2_1 : decode K2.bytes 1 = .ok (.invokespecial 1, 3) := by decide +kernel
theorem d2_4 : decode K2.bytes 4 = .ok (.return_, 1) := by decide +kernel
theorem d4_0 : decode K4.bytes 0 = .ok (.sipush 128, 3) := by decide +kernel
theorem d4_3 : decode K4.bytes 3 = .ok (.istore_n 2, 1) := by decide +kernel
theorem d4_4 : decode K4.bytes 4 = .ok (.lload_n 0, 1) := by decide +kernel
theorem d4_5 : decode K4.bytes 5 = .ok (.ldc2_w 230, 3) := by decide +kernel
theorem d4_8 : decode K4.bytes 8 = .ok (.lcmp, 1) := by decide +kernel
theorem d4_9 : decode K4.bytes 9 = .ok (.ifCond .lt 22, 3) := by decide +kernel
theorem d4_12 : decode K4.bytes 12 = .ok (.lload_n 0, 1) := by decide +kernel
theorem d4_13 : decode K4.bytes 13 = .ok (.ldc2_w 232, 3) := by decide +kernel
theorem d4_16 : decode K4.bytes 16 = .ok (.lcmp, 1) := by decide +kernel
theorem d4_17 : decode K4.bytes 17 = .ok (.ifCond .gt 14, 3) := by decide +kernel
theorem d4_20 : decode K4.bytes 20 = .ok (.getstatic 234, 3) := by decide +kernel
theorem d4_23 : decode K4.bytes 23 = .ok (.lload_n 0, 1) := by decide +kernel
theorem d4_24 : decode K4.bytes 24 = .ok (.l2i, 1) := by decide +kernel
theorem d4_25 : decode K4.bytes 25 = .ok (.sipush 128, 3) := by decide +kernel
theorem d4_28 : decode K4.bytes 28 = .ok (.iadd, 1) := by decide +kernel
theorem d4_29 : decode K4.bytes 29 = .ok (.aaload, 1) := by decide +kernel
theorem d4_30 : decode K4.bytes 30 = .ok (.areturn, 1) := by decide +kernel
theorem d4_31 : decode K4.bytes 31 = .ok (.new 1, 3) := by decide +kernel
theorem d4_34 : decode K4.bytes 34 = .ok (.dup, 1) := by decide +kernel
theorem d4_35 : decode K4.bytes 35 = .ok (.lload_n 0, 1) := by decide +kernel
theorem d4_36 : decode K4.bytes 36 = .ok (.invokespecial 240, 3) := by decide +kernel
theorem d4_39 : decode K4.bytes 39 = .ok (.areturn, 1) := by decide +kernel
theorem d5_0 : decode K5.bytes 0 = .ok (.aload_n 0, 1) := by decide +kernel
theorem d5_1 : decode K5.bytes 1 = .ok (.aload_n 1, 1) := by decide +kernel
theorem d5_2 : decode K5.bytes 2 = .ok (.if_acmp .eq 27, 3) := by decide +kernel
theorem d5_5 : decode K5.bytes 5 = .ok (.aload_n 1, 1) := by decide +kernel
theorem d5_6 : decode K5.bytes 6 = .ok (.instanceof 8, 3) := by decide +kernel
theorem d5_9 : decode K5.bytes 9 = .ok (.ifCond .eq 24, 3) := by decide +kernel
theorem d5_12 : decode K5.bytes 12 = .ok (.aload_n 1, 1) := by decide +kernel
theorem d5_13 : decode K5.bytes 13 = .ok (.checkcast 8, 3) := by decide +kernel
theorem d5_16 : decode K5.bytes 16 = .ok (.astore_n 2, 1) := by decide +kernel
theorem d5_17 : decode K5.bytes 17 = .ok (.aload_n 0, 1) := by decide +kernel
theorem d5_18 : decode K5.bytes 18 = .ok (.getfield 7, 3) := by decide +kernel
theorem d5_21 : decode K5.bytes 21 = .ok (.aload_n 2, 1) := by decide +kernel
theorem d5_22 : decode K5.bytes 22 = .ok (.getfield 7, 3) := by decide +kernel
theorem d5_25 : decode K5.bytes 25 = .ok (.lcmp, 1) := by decide +kernel
theorem d5_26 : decode K5.bytes 26 = .ok (.ifCond .ne 7, 3) := by decide +kernel
theorem d5_29 : decode K5.bytes 29 = .ok (.iconst 1, 1) := by decide +kernel
theorem d5_30 : decode K5.bytes 30 = .ok (.goto 4, 3) := by decide +kernel
theorem d5_33 : decode K5.bytes 33 = .ok (.iconst 0, 1) := by decide +kernel
theorem d5_34 : decode K5.bytes 34 = .ok (.ireturn, 1) := by decide +kernel
theorem d6_0 : decode K6.bytes 0 = .ok (.aload_n 0, 1) := by decide +kernel
theorem d6_1 : decode K6.bytes 1 = .ok (.invokespecial 270, 3) := by decide +kernel
theorem d6_4 : decode K6.bytes 4 = .ok (.aload_n 0, 1) := by decide +kernel
theorem d6_5 : decode K6.bytes 5 = .ok (.lload_n 1, 1) := by decide +kernel
theorem d6_6 : decode K6.bytes 6 = .ok (.putfield 273, 3) := by decide +kernel
theorem d6_9 : decode K6.bytes 9 = .ok (.return_, 1) := by decide +kernel
theorem d7_0 : decode K7.bytes 0 = .ok (.aload_n 0, 1) := by decide +kernel
theorem d7_1 : decode K7.bytes 1 = .ok (.invokespecial 1, 3) := by decide +kernel
theorem d7_4 : decode K7.bytes 4 = .ok (.return_, 1) := by decide +kernel
def own_eqv (i j : Int64) : Int32 := if lcmpW i j = 0 then 1 else 0
theorem own_idx (q : Int64) (h1 : ¬ lcmpW q (-128) < 0) (h2 : ¬ 0 < lcmpW q 127) : ¬ (q.toInt32 + 128 < 0 ∨ 256 ≤ (q.toInt32 + 128).toNatClampNeg) := by
  rw [lw_lt, Int64.lt_iff_toInt_lt] at h1
  rw [lw_gt, Int64.lt_iff_toInt_lt] at h2
  have a1 : (-128 : Int64).toInt = -128 := by decide
  have a2 : (127 : Int64).toInt = 127 := by decide
  rw [a1] at h1; rw [a2] at h2
  have h3 := c_l2i q
  have h4 := rng32 q.toInt32
  have h5 := c_iadd q.toInt32 128
  have h6 := rng32 (q.toInt32 + 128)
  simp only [Int32.reduceToInt] at h5
  simp only [Int32.lt_iff_toInt_lt, Int32.toNatClampNeg, Int32.reduceToInt]
  omega
theorem own_no {a0 : Array Value} {Z : State} (hw : Hw a0 Z) : ∃ c t, Z.vm.findClass "java/lang/Long" = some c ∧ Z.vm.findClass "com/example/hornstone/hornstone/rdf/BlankNode" = some t ∧ Z.vm.assignable c t = false := by
  obtain ⟨t, kt, g1, g2, g3, g4, -⟩ := Cond.instantiable_spec ((w1 hw))
  simp only [Bool.or_eq_false_iff] at g4
  obtain ⟨o, ko, o1, o2, o3, -, -⟩ := Cond.noSuperclass_spec ((w32 hw))
  obtain ⟨c, c0⟩ := found_sup ((w30 hw))
  obtain ⟨nb, n0⟩ := found_sup ((w31 hw))
  obtain ⟨p, k, kp, h1, h2, h3, h4, h5, -, h7⟩ := Cond.superclass_spec c0 ((w30 hw))
  obtain ⟨p', k', kp', h1', h2', h3', h4', h5', -, h7'⟩ := Cond.superclass_spec n0 ((w31 hw))
  cases n0.symm.trans h1
  cases o1.symm.trans h1'
  have e1 := ids_ne c0 g1 (by decide)
  have e2 := ids_ne n0 g1 (by decide)
  have e3 := ids_ne o1 g1 (by decide)
  have s3 : ∀ fuel, Z.vm.isSubclassAux fuel o t = false := fun fuel => by
    cases fuel with
    | zero => rfl
    | succ f => simp [Vm.isSubclassAux, e3, o2, o3]
  have s2 : ∀ fuel, Z.vm.isSubclassAux fuel nb t = false := fun fuel => by
    cases fuel with
    | zero => rfl
    | succ f => simp [Vm.isSubclassAux, e2, h2', h4', s3]
  have s1 : ∀ fuel, Z.vm.isSubclassAux fuel c t = false := fun fuel => by
    cases fuel with
    | zero => rfl
    | succ f => simp [Vm.isSubclassAux, e1, h2, h4, s2]
  refine ⟨c, t, c0, g1, ?_⟩
  show Z.vm.assignableAux (255 + 1) c t = false
  simp [Vm.assignableAux, e1, h2, g2, h5, g3, g4.1, Vm.isSubclass, s1]
set_option maxRecDepth 65536 in
set_option maxHeartbeats 4000000 in
theorem rm2 (l : Launch) (Z : State) (a0 : Array Value) (hw : Hw a0 Z) (a : Addr)  (h0 : Heap) (n0 : Nat) (Z0 : n0 ≤ h0.size)  :
    Ct l Z K2 #[(.ref a)] h0 n0 (fun v h => v = none ∧ h = h0) := by
  refine Ct.of (Ls := #[.val (.ref a)]) (plainFor_of_name (by first | decide +kernel | (simp [plainName, overriddenIn]; done))) (fun m => by first | rfl | (simp [entryFrame, mkF, argsToLocals, Value.category]; done)) ?_
  intro E T W
  refine go_aloadN (pc' := 1) W d2_0 rfl rfl rfl ?_
  refine go_initO (pc' := 4) W (w11 hw) (w12 hw) (w13 hw) d2_1 rfl (nb rfl) (nb rfl) rfl ?_
  intro T1 W1
  exact go_retV W1 rfl d2_4 (nb rfl) (nb rfl) (⟨rfl, rfl⟩)
set_option maxRecDepth 65536 in
set_option maxHeartbeats 4000000 in
theorem rm7 (l : Launch) (Z : State) (a0 : Array Value) (hw : Hw a0 Z) (a : Addr)  (h0 : Heap) (n0 : Nat) (Z0 : n0 ≤ h0.size)  :
    Ct l Z K7 #[(.ref a)] h0 n0 (fun v h => v = none ∧ h = h0) := by
  refine Ct.of (Ls := #[.val (.ref a)]) (plainFor_of_name (by first | decide +kernel | (simp [plainName, overriddenIn]; done))) (fun m => by first | rfl | (simp [entryFrame, mkF, argsToLocals, Value.category]; done)) ?_
  intro E T W
  refine go_aloadN (pc' := 1) W d7_0 rfl rfl rfl ?_
  refine go_initO (pc' := 4) W (w46 hw) (w12 hw) (w13 hw) d7_1 rfl (nb rfl) (nb rfl) rfl ?_
  intro T2 W2
  exact go_retV W2 rfl d7_4 (nb rfl) (nb rfl) (⟨rfl, rfl⟩)
set_option maxRecDepth 65536 in
set_option maxHeartbeats 4000000 in
theorem rm1 (l : Launch) (Z : State) (a0 : Array Value) (hw : Hw a0 Z) (a : Addr) (q : Int64)  (h0 : Heap) (n0 : Nat) (Z0 : n0 ≤ h0.size) (Ea : Exa Z h0 a "com/example/hornstone/hornstone/rdf/BlankNode") (Fa : Fld Z h0 a "com/example/hornstone/hornstone/rdf/BlankNode" "id" "J" (.long 0)) (ga : n0 ≤ a) :
    Ct l Z K1 #[(.ref a), (.long q)] h0 n0 (fun v h => v = none ∧ Keep h0 h [a] ∧ Exa Z h a "com/example/hornstone/hornstone/rdf/BlankNode" ∧ Fld Z h a "com/example/hornstone/hornstone/rdf/BlankNode" "id" "J" (.long q)) := by
  refine Ct.of (Ls := #[.val (.ref a), .val (.long q), .second]) (plainFor_of_name (by first | decide +kernel | (simp [plainName, overriddenIn]; done))) (fun m => by first | rfl | (simp [entryFrame, mkF, argsToLocals, Value.category]; done)) ?_
  intro E T W
  refine go_aloadN (pc' := 1) W d1_0 rfl rfl rfl ?_
  refine go_callN (a := a) (kc := K2) (argsL := []) (rest := []) (pc' := 4) W (w6 hw) (w7 hw) (w9 hw) (w10 hw) (rm2 E.l Z a0 hw a h0 n0 Z0) rfl rfl (by decide) pd0 rfl rfl rfl (nb rfl) (nb rfl) (nb rfl) (nb rfl) d1_1 rfl ?_
  rintro _ T3 h3 ⟨rfl, q3⟩ W3
  replace W3 := W3.sub q3
  show Go E _ (Fm E T3 4 #[.val (.ref a), .val (.long q), .second] [])
  refine go_aloadN (pc' := 5) W3 d1_4 rfl rfl rfl ?_
  refine go_lloadN (pc' := 6) W3 d1_5 rfl rfl ?_
  refine go_putF (pc' := 9) W3 (host := "") (Or.inl (w14 hw)) Via.refl Fa Ea (Or.inr ⟨(w15 hw), rfl, rfl⟩) (w1 hw) (ty := .long) (by decide) rfl rfl ga d1_6 rfl ?_
  intro T4 h4 W4 R4
  have f5 := Ea.wr R4
  have f6 := Fa.same R4
  have k7 := (Keep.refl h0 [a]).wr R4 (Or.inl (by simp))
  have z8 := Nat.le_trans Z0 (Keep.of_wr R4).1
  exact go_retV W4 rfl d1_9 (nb rfl) (nb rfl) (⟨rfl, k7, f5, f6⟩)
set_option maxRecDepth 65536 in
set_option maxHeartbeats 4000000 in
theorem rm6 (l : Launch) (Z : State) (a0 : Array Value) (hw : Hw a0 Z) (a : Addr) (q : Int64)  (h0 : Heap) (n0 : Nat) (Z0 : n0 ≤ h0.size) (Ea : Exa Z h0 a "java/lang/Long") (Fa : Fld Z h0 a "java/lang/Long" "value" "J" (.long 0)) (ga : n0 ≤ a) :
    Ct l Z K6 #[(.ref a), (.long q)] h0 n0 (fun v h => v = none ∧ Keep h0 h [a] ∧ Exa Z h a "java/lang/Long" ∧ Fld Z h a "java/lang/Long" "value" "J" (.long q)) := by
  refine Ct.of (Ls := #[.val (.ref a), .val (.long q), .second]) (plainFor_of_name (by first | decide +kernel | (simp [plainName, overriddenIn]; done))) (fun m => by first | rfl | (simp [entryFrame, mkF, argsToLocals, Value.category]; done)) ?_
  intro E T W
  refine go_aloadN (pc' := 1) W d6_0 rfl rfl rfl ?_
  refine go_callN (a := a) (kc := K7) (argsL := []) (rest := []) (pc' := 4) W (w40 hw) (w41 hw) (w44 hw) (w45 hw) (rm7 E.l Z a0 hw a h0 n0 Z0) rfl rfl (by decide) pd0 rfl rfl rfl (nb rfl) (nb rfl) (nb rfl) (nb rfl) d6_1 rfl ?_
  rintro _ T9 h9 ⟨rfl, q9⟩ W9
  replace W9 := W9.sub q9
  show Go E _ (Fm E T9 4 #[.val (.ref a), .val (.long q), .second] [])
  refine go_aloadN (pc' := 5) W9 d6_4 rfl rfl rfl ?_
  refine go_lloadN (pc' := 6) W9 d6_5 rfl rfl ?_
  refine go_putF (pc' := 9) W9 (host := "") (Or.inl (w47 hw)) Via.refl Fa Ea (Or.inr ⟨(w48 hw), rfl, rfl⟩) (w35 hw) (ty := .long) (by decide) rfl rfl ga d6_6 rfl ?_
  intro T10 h10 W10 R10
  have f11 := Ea.wr R10
  have f12 := Fa.same R10
  have k13 := (Keep.refl h0 [a]).wr R10 (Or.inl (by simp))
  have z14 := Nat.le_trans Z0 (Keep.of_wr R10).1
  exact go_retV W10 rfl d6_9 (nb rfl) (nb rfl) (⟨rfl, k13, f11, f12⟩)
set_option maxRecDepth 65536 in
set_option maxHeartbeats 4000000 in
theorem rm4 (l : Launch) (Z : State) (a0 : Array Value) (hw : Hw a0 Z) (q : Int64) (ca : Addr) (cl : Cell) (h0 : Heap) (n0 : Nat) (Z0 : n0 ≤ h0.size) (Sc : Sta Z h0 "java/lang/Long$LongCache" "cache" "[Ljava/lang/Long;" (.ref ca)) (Ar : Arr Z h0 ca cl (.object "java/lang/Long")) (Sz : cl.slots.size = 256) (Cc : ∀ j : Int32, ¬ (j < 0 ∨ 256 ≤ j.toNatClampNeg) → ∃ b : Addr, cl.slots[j.toNatClampNeg]? = some (.ref b) ∧ Exa Z h0 b "java/lang/Long") :
    Ct l Z K4 #[(.long q)] h0 n0 (fun v h => Exists fun b : Addr => v = some (.ref b) ∧ Exa Z h b "java/lang/Long" ∧ Keep h0 h []) := by
  refine Ct.of (Ls := #[.val (.long q), .second, .unset]) (plainFor_of_name (by first | decide +kernel | (simp [plainName, overriddenIn]; done))) (fun m => by first | rfl | (simp [entryFrame, mkF, argsToLocals, Value.category]; done)) ?_
  intro E T W
  refine go_sipush (pc' := 3) (z := 128) W d4_0 (by decide) rfl ?_
  refine go_istoreN (pc' := 4) (l' := #[.val (.long q), .second, .val (.int (128 : Int32))]) W d4_3 rfl rfl ?_
  refine go_lloadN (pc' := 5) W d4_4 rfl rfl ?_
  refine go_ldc2Long (pc' := 8) W (w20 hw) d4_5 rfl ?_
  refine go_lcmp (pc' := 9) W d4_8 rfl ?_
  refine go_if_lt (pt := 31) (pf := 12) W d4_9 (by decide) rfl rfl (fun c9_15 => ?_) (fun c9_15 => ?_)
  · -- pc 9 taken
    refine go_new (pc' := 34) W (w34 hw) (w35 hw) (w18 hw) d4_31 (nb rfl) (nb rfl) rfl ?_
    intro T16 h16 b16 g16 W16 E16 A16 D16 M16
    have ge17 : n0 ≤ b16 := by rw [g16]; exact Z0
    have old18 : h0.size ≤ b16 := by rw [g16]; exact (Keep.refl h0 []).1
    have f19 := Sc.ext E16
    have k20 := (Keep.refl h0 []).ext E16
    have z21 := Nat.le_trans Z0 E16.1
    have f22 : Fld Z h16 b16 "java/lang/Long" "value" "J" (.long (0 : Int64)) := D16 (Or.inr (w48 hw)) (ty := .long) (by decide)
    refine go_dup (pc' := 35) W16 d4_34 rfl rfl ?_
    refine go_lloadN (pc' := 36) W16 d4_35 rfl rfl ?_
    refine go_callN (a := b16) (kc := K6) (argsL := [(.long q)]) (rest := [(.ref b16)]) (pc' := 39) W16 (w36 hw) (w37 hw) (w18 hw) (w39 hw) (rm6 E.l Z a0 hw b16 q h16 n0 z21 A16 f22 ge17) rfl rfl (by decide) pd1 rfl rfl rfl (nb rfl) (nb rfl) (nb rfl) (nb rfl) d4_36 rfl ?_
    rintro _ T23 h23 ⟨rfl, K23, e23, fa23⟩ W23
    have f25 := A16.keep K23
    have k27 := k20.trans K23 (allS (Or.inr old18) all0)
    have z28 := Nat.le_trans z21 K23.1
    show Go E _ (Fm E T23 39 #[.val (.long q), .second, .val (.int (128 : Int32))] [(.ref b16)])
    exact go_retA W23 (t := (.object "java/lang/Long")) rfl rfl rfl rfl d4_39 (nb rfl) (nb rfl) (⟨b16, rfl, f25, k27⟩)
  · -- pc 9 not taken
    refine go_lloadN (pc' := 13) W d4_12 rfl rfl ?_
    refine go_ldc2Long (pc' := 16) W (w21 hw) d4_13 rfl ?_
    refine go_lcmp (pc' := 17) W d4_16 rfl ?_
    refine go_if_gt (pt := 31) (pf := 20) W d4_17 (by decide) rfl rfl (fun c17_29 => ?_) (fun c17_29 => ?_)
    · -- pc 17 taken
      refine go_new (pc' := 34) W (w34 hw) (w35 hw) (w18 hw) d4_31 (nb rfl) (nb rfl) rfl ?_
      intro T30 h30 b30 g30 W30 E30 A30 D30 M30
      have ge31 : n0 ≤ b30 := by rw [g30]; exact Z0
      have old32 : h0.size ≤ b30 := by rw [g30]; exact (Keep.refl h0 []).1
      have f33 := Sc.ext E30
      have k34 := (Keep.refl h0 []).ext E30
      have z35 := Nat.le_trans Z0 E30.1
      have f36 : Fld Z h30 b30 "java/lang/Long" "value" "J" (.long (0 : Int64)) := D30 (Or.inr (w48 hw)) (ty := .long) (by decide)
      refine go_dup (pc' := 35) W30 d4_34 rfl rfl ?_
      refine go_lloadN (pc' := 36) W30 d4_35 rfl rfl ?_
      refine go_callN (a := b30) (kc := K6) (argsL := [(.long q)]) (rest := [(.ref b30)]) (pc' := 39) W30 (w36 hw) (w37 hw) (w18 hw) (w39 hw) (rm6 E.l Z a0 hw b30 q h30 n0 z35 A30 f36 ge31) rfl rfl (by decide) pd1 rfl rfl rfl (nb rfl) (nb rfl) (nb rfl) (nb rfl) d4_36 rfl ?_
      rintro _ T37 h37 ⟨rfl, K37, e37, fa37⟩ W37
      have f39 := A30.keep K37
      have k41 := k34.trans K37 (allS (Or.inr old32) all0)
      have z42 := Nat.le_trans z35 K37.1
      show Go E _ (Fm E T37 39 #[.val (.long q), .second, .val (.int (128 : Int32))] [(.ref b30)])
      exact go_retA W37 (t := (.object "java/lang/Long")) rfl rfl rfl rfl d4_39 (nb rfl) (nb rfl) (⟨b30, rfl, f39, k41⟩)
    · -- pc 17 not taken
      refine go_getS (pc' := 23) W (host := "") (Or.inl (w22 hw)) Via.refl Sc d4_20 rfl ?_
      intro T43 W43
      refine go_lloadN (pc' := 24) W43 d4_23 rfl rfl ?_
      refine go_l2i (pc' := 25) W43 d4_24 rfl ?_
      refine go_sipush (pc' := 28) (z := 128) W43 d4_25 (by decide) rfl ?_
      refine go_iadd (pc' := 29) W43 d4_28 rfl ?_
      have hi := own_idx q c9_15 c17_29
      obtain ⟨b, hb1, hb2⟩ := Cc _ hi
      refine go_aaload (pc' := 30) W43 Ar rfl (by rw [Sz]; exact hi) hb1 d4_29 rfl ?_
      exact go_retA W43 (t := (.object "java/lang/Long")) rfl rfl rfl rfl d4_30 (nb rfl) (nb rfl) (⟨b, rfl, hb2, (Keep.refl h0 [])⟩)
set_option maxRecDepth 65536 in
set_option maxHeartbeats 4000000 in
theorem eq_null (l : Launch) (Z : State) (a0 : Array Value) (hw : Hw a0 Z) (a : Addr)  (h0 : Heap) (n0 : Nat) (Z0 : n0 ≤ h0.size)  :
    Ct l Z K5 #[(.ref a), .null] h0 n0 (fun v h => v = some (.int 0) ∧ h = h0) := by
  refine Ct.of (Ls := #[.val (.ref a), .val .null, .unset]) (plainFor_of_name (by first | decide +kernel | (simp [plainName, overriddenIn]; done))) (fun m => by first | rfl | (simp [entryFrame, mkF, argsToLocals, Value.category]; done)) ?_
  intro E T W
  refine go_aloadN (pc' := 1) W d5_0 rfl rfl rfl ?_
  refine go_aloadN (pc' := 2) W d5_1 rfl rfl rfl ?_
  refine go_acmp_eq (pt := 29) (pf := 5) W d5_2 rfl rfl (by decide) rfl rfl (fun c2_44 => ?_) (fun c2_44 => ?_)
  · exact absurd c2_44 nofun
  · -- pc 2 not taken
    refine go_aloadN (pc' := 6) W d5_5 rfl rfl rfl ?_
    refine go_instNull (pc' := 9) W d5_6 rfl ?_
    refine go_if_eq (pt := 33) (pf := 12) W d5_9 (by decide) rfl rfl (fun c9_45 => ?_) (fun c9_45 => ?_)
    · -- pc 9 taken
      refine go_iconst (pc' := 34) (z := 0) W d5_33 rfl rfl ?_
      exact go_retI W (t := .boolean) rfl (by simp) rfl d5_34 (nb rfl) (nb rfl) (⟨rfl, rfl⟩)
    · exact absurd c9_45 (by decide)
set_option maxRecDepth 65536 in
set_option maxHeartbeats 4000000 in
theorem eq_self (l : Launch) (Z : State) (a0 : Array Value) (hw : Hw a0 Z) (a : Addr)  (h0 : Heap) (n0 : Nat) (Z0 : n0 ≤ h0.size)  :
    Ct l Z K5 #[(.ref a), (.ref a)] h0 n0 (fun v h => v = some (.int 1) ∧ h = h0) := by
  refine Ct.of (Ls := #[.val (.ref a), .val (.ref a), .unset]) (plainFor_of_name (by first | decide +kernel | (simp [plainName, overriddenIn]; done))) (fun m => by first | rfl | (simp [entryFrame, mkF, argsToLocals, Value.category]; done)) ?_
  intro E T W
  refine go_aloadN (pc' := 1) W d5_0 rfl rfl rfl ?_
  refine go_aloadN (pc' := 2) W d5_1 rfl rfl rfl ?_
  refine go_acmp_eq (pt := 29) (pf := 5) W d5_2 rfl rfl (by decide) rfl rfl (fun c2_46 => ?_) (fun c2_46 => ?_)
  · -- pc 2 taken
    replace c2_46 : a = a := Value.ref.inj c2_46
    refine go_iconst (pc' := 30) (z := 1) W d5_29 rfl rfl ?_
    refine go_goto (pc' := 34) W d5_30 (by decide) rfl ?_
    exact go_retI W (t := .boolean) rfl (by simp) rfl d5_34 (nb rfl) (nb rfl) (⟨rfl, rfl⟩)
  · exact absurd rfl c2_46
set_option maxRecDepth 65536 in
set_option maxHeartbeats 4000000 in
theorem eq_long (l : Launch) (Z : State) (a0 : Array Value) (hw : Hw a0 Z) (a : Addr) (b : Addr)  (h0 : Heap) (n0 : Nat) (Z0 : n0 ≤ h0.size) (Ea : Exa Z h0 a "com/example/hornstone/hornstone/rdf/BlankNode") (Eb : Exa Z h0 b "java/lang/Long") :
    Ct l Z K5 #[(.ref a), (.ref b)] h0 n0 (fun v h => v = some (.int 0) ∧ h = h0) := by
  refine Ct.of (Ls := #[.val (.ref a), .val (.ref b), .unset]) (plainFor_of_name (by first | decide +kernel | (simp [plainName, overriddenIn]; done))) (fun m => by first | rfl | (simp [entryFrame, mkF, argsToLocals, Value.category]; done)) ?_
  intro E T W
  refine go_aloadN (pc' := 1) W d5_0 rfl rfl rfl ?_
  refine go_aloadN (pc' := 2) W d5_1 rfl rfl rfl ?_
  refine go_acmp_eq (pt := 29) (pf := 5) W d5_2 rfl rfl (by decide) rfl rfl (fun c2_47 => ?_) (fun c2_47 => ?_)
  · exact absurd (Value.ref.inj c2_47) (ne_exa Ea Eb (by decide))
  · -- pc 2 not taken
    replace c2_47 : ¬ a = b := fun q => c2_47 (congrArg Value.ref q)
    refine go_aloadN (pc' := 6) W d5_5 rfl rfl rfl ?_
    refine go_instNo (pc' := 9) W (w29 hw) Eb (own_no hw) d5_6 rfl ?_
    intro T48 W48
    refine go_if_eq (pt := 33) (pf := 12) W48 d5_9 (by decide) rfl rfl (fun c9_49 => ?_) (fun c9_49 => ?_)
    · -- pc 9 taken
      refine go_iconst (pc' := 34) (z := 0) W48 d5_33 rfl rfl ?_
      exact go_retI W48 (t := .boolean) rfl (by simp) rfl d5_34 (nb rfl) (nb rfl) (⟨rfl, rfl⟩)
    · exact absurd c9_49 (by decide)
set_option maxRecDepth 65536 in
set_option maxHeartbeats 4000000 in
theorem eq_node (l : Launch) (Z : State) (a0 : Array Value) (hw : Hw a0 Z) (a : Addr) (b : Addr) (i j : Int64) (h0 : Heap) (n0 : Nat) (Z0 : n0 ≤ h0.size) (Ea : Exa Z h0 a "com/example/hornstone/hornstone/rdf/BlankNode") (Eb : Exa Z h0 b "com/example/hornstone/hornstone/rdf/BlankNode") (Fa : Fld Z h0 a "com/example/hornstone/hornstone/rdf/BlankNode" "id" "J" (.long i)) (Fb : Fld Z h0 b "com/example/hornstone/hornstone/rdf/BlankNode" "id" "J" (.long j)) (hne : a ≠ b) :
    Ct l Z K5 #[(.ref a), (.ref b)] h0 n0 (fun v h => v = some (.int (own_eqv i j)) ∧ h = h0) := by
  refine Ct.of (Ls := #[.val (.ref a), .val (.ref b), .unset]) (plainFor_of_name (by first | decide +kernel | (simp [plainName, overriddenIn]; done))) (fun m => by first | rfl | (simp [entryFrame, mkF, argsToLocals, Value.category]; done)) ?_
  intro E T W
  refine go_aloadN (pc' := 1) W d5_0 rfl rfl rfl ?_
  refine go_aloadN (pc' := 2) W d5_1 rfl rfl rfl ?_
  refine go_acmp_eq (pt := 29) (pf := 5) W d5_2 rfl rfl (by decide) rfl rfl (fun c2_50 => ?_) (fun c2_50 => ?_)
  · exact absurd (Value.ref.inj c2_50) hne
  · -- pc 2 not taken
    replace c2_50 : ¬ a = b := fun q => c2_50 (congrArg Value.ref q)
    refine go_aloadN (pc' := 6) W d5_5 rfl rfl rfl ?_
    refine go_instY (pc' := 9) W (w29 hw) (Ins.self Eb) d5_6 rfl ?_
    intro T51 W51
    refine go_if_eq (pt := 33) (pf := 12) W51 d5_9 (by decide) rfl rfl (fun c9_52 => ?_) (fun c9_52 => ?_)
    · exact absurd c9_52 (by decide)
    · -- pc 9 not taken
      refine go_aloadN (pc' := 13) W51 d5_12 rfl rfl rfl ?_
      refine go_castY (pc' := 16) W51 (w29 hw) (Ins.self Eb) d5_13 rfl ?_
      intro T53 W53
      refine go_astoreN (pc' := 17) (l' := #[.val (.ref a), .val (.ref b), .val (.ref b)]) W53 d5_16 rfl rfl rfl ?_
      refine go_aloadN (pc' := 18) W53 d5_17 rfl rfl rfl ?_
      refine go_getF (pc' := 21) W53 (host := "") (Or.inl (w14 hw)) Via.refl Fa d5_18 rfl ?_
      intro T54 W54
      refine go_aloadN (pc' := 22) W54 d5_21 rfl rfl rfl ?_
      refine go_getF (pc' := 25) W54 (host := "") (Or.inl (w14 hw)) Via.refl Fb d5_22 rfl ?_
      intro T55 W55
      refine go_lcmp (pc' := 26) W55 d5_25 rfl ?_
      refine go_if_ne (pt := 33) (pf := 29) W55 d5_26 (by decide) rfl rfl (fun c26_56 => ?_) (fun c26_56 => ?_)
      · -- pc 26 taken
        refine go_iconst (pc' := 34) (z := 0) W55 d5_33 rfl rfl ?_
        exact go_retI W55 (t := .boolean) rfl (by simp) rfl d5_34 (nb rfl) (nb rfl) (⟨by simp [own_eqv, c2_50, c9_52, c26_56], rfl⟩)
      · -- pc 26 not taken
        refine go_iconst (pc' := 30) (z := 1) W55 d5_29 rfl rfl ?_
        refine go_goto (pc' := 34) W55 d5_30 (by decide) rfl ?_
        exact go_retI W55 (t := .boolean) rfl (by simp) rfl d5_34 (nb rfl) (nb rfl) (⟨by simp [own_eqv, c2_50, c9_52, c26_56], rfl⟩)
theorem own_sta {Z : State} {h h' : Heap} {C n d : String} {v : Value} (S : Sta Z h C n d v) (K : Keep h h' []) : Sta Z h' C n d v := by obtain ⟨cf, i, k, f, st, cell, h1, h2, h3, h4, h5, r⟩ := S; exact ⟨cf, i, k, f, st, cell, h1, h2, h3, h4, K.2.1 _ _ h5 nin0, r⟩
theorem own_arr {Z : State} {h h' : Heap} {a : Addr} {c : Cell} {ty : FieldType} (A : Arr Z h a c ty) (K : Keep h h' []) : Arr Z h' a c ty := ⟨K.2.1 _ _ A.1 nin0, A.2⟩
theorem own_sym {i j : Int64} (h : lcmpW i j = 0) : lcmpW j i = 0 := by rw [lw_eq] at h ⊢; exact h.symm
theorem own_nsym {i j : Int64} (h : ¬ lcmpW i j = 0) : ¬ lcmpW j i = 0 := by rw [lw_eq] at h ⊢; exact fun q => h q.symm
set_option maxRecDepth 65536 in
set_option maxHeartbeats 4000000 in
theorem rm0 (l : Launch) (Z : State) (a0 : Array Value) (hw : Hw a0 Z) (x0 : Int64) (x1 : Int64) (x2 : Int32) (ca : Addr) (cl : Cell) (h0 : Heap) (n0 : Nat) (Z0 : n0 ≤ h0.size) (Sc : Sta Z h0 "java/lang/Long$LongCache" "cache" "[Ljava/lang/Long;" (.ref ca)) (Ar : Arr Z h0 ca cl (.object "java/lang/Long")) (Sz : cl.slots.size = 256) (Cc : ∀ j : Int32, ¬ (j < 0 ∨ 256 ≤ j.toNatClampNeg) → ∃ b : Addr, cl.slots[j.toNatClampNeg]? = some (.ref b) ∧ Exa Z h0 b "java/lang/Long") :
    Ct l Z K0 #[(.long x0), (.long x1), (.int x2)] h0 n0 (fun v h => v = some (.int 1)) := by
  refine Ct.of (Ls := #[.val (.long x0), .second, .val (.long x1), .second, .val (.int x2), .unset, .unset, .unset, .unset, .unset, .unset, .unset, .unset, .unset, .unset, .unset]) (plainFor_of_name (by first | decide +kernel | (simp [plainName, overriddenIn]; done))) (fun m => by first | rfl | (simp [entryFrame, mkF, argsToLocals, Value.category]; done)) ?_
  intro E T W
  refine go_iload (pc' := 2) W d0_0 rfl rfl ?_
  refine go_iconst (pc' := 3) (z := 1) W d0_2 rfl rfl ?_
  refine go_iand (pc' := 4) W d0_3 rfl ?_
  refine go_if_eq (pt := 11) (pf := 7) W d0_4 (by decide) rfl rfl (fun c4_57 => ?_) (fun c4_57 => ?_)
  · -- pc 4 taken
    refine go_lloadN (pc' := 12) W d0_11 rfl rfl ?_
    refine go_lstore (pc' := 14) (l' := #[.val (.long x0), .second, .val (.long x1), .second, .val (.int x2), .val (.long x1), .second, .unset, .unset, .unset, .unset, .unset, .unset, .unset, .unset, .unset]) W d0_12 rfl rfl ?_
    refine go_new (pc' := 17) W (w0 hw) (w1 hw) (w2 hw) d0_14 (nb rfl) (nb rfl) rfl ?_
    intro T58 h58 b58 g58 W58 E58 A58 D58 M58
    have ge59 : n0 ≤ b58 := by rw [g58]; exact Z0
    have old60 : h0.size ≤ b58 := by rw [g58]; exact (Keep.refl h0 []).1
    have k61 := (Keep.refl h0 []).ext E58
    have z62 := Nat.le_trans Z0 E58.1
    have f63 : Fld Z h58 b58 "com/example/hornstone/hornstone/rdf/BlankNode" "id" "J" (.long (0 : Int64)) := D58 (Or.inr (w15 hw)) (ty := .long) (by decide)
    refine go_dup (pc' := 18) W58 d0_17 rfl rfl ?_
    refine go_lloadN (pc' := 19) W58 d0_18 rfl rfl ?_
    refine go_callN (a := b58) (kc := K1) (argsL := [(.long x0)]) (rest := [(.ref b58)]) (pc' := 22) W58 (w3 hw) (w4 hw) (w2 hw) (w5 hw) (rm1 E.l Z a0 hw b58 x0 h58 n0 z62 A58 f63 ge59) rfl rfl (by decide) pd1 rfl rfl rfl (nb rfl) (nb rfl) (nb rfl) (nb rfl) d0_19 rfl ?_
    rintro _ T64 h64 ⟨rfl, K64, e64, fa64⟩ W64
    have f65 := A58.keep K64
    have k67 := k61.trans K64 (allS (Or.inr old60) all0)
    have z68 := Nat.le_trans z62 K64.1
    show Go E _ (Fm E T64 22 #[.val (.long x0), .second, .val (.long x1), .second, .val (.int x2), .val (.long x1), .second, .unset, .unset, .unset, .unset, .unset, .unset, .unset, .unset, .unset] [(.ref b58)])
    refine go_astore (pc' := 24) (l' := #[.val (.long x0), .second, .val (.long x1), .second, .val (.int x2), .val (.long x1), .second, .val (.ref b58), .unset, .unset, .unset, .unset, .unset, .unset, .unset, .unset]) W64 d0_22 rfl rfl rfl ?_
    refine go_new (pc' := 27) W64 (w0 hw) (w1 hw) (w2 hw) d0_24 (nb rfl) (nb rfl) rfl ?_
    intro T69 h69 b69 g69 W69 E69 A69 D69 M69
    have ne70 : b58 ≠ b69 := by rw [g69]; exact Nat.ne_of_lt f65.lt
    have ge71 : n0 ≤ b69 := by rw [g69]; exact z68
    have old72 : h0.size ≤ b69 := by rw [g69]; exact k67.1
    have f73 := f65.ext E69
    have f74 := fa64.ext E69
    have k75 := k67.ext E69
    have z76 := Nat.le_trans z68 E69.1
    have f77 : Fld Z h69 b69 "com/example/hornstone/hornstone/rdf/BlankNode" "id" "J" (.long (0 : Int64)) := D69 (Or.inr (w15 hw)) (ty := .long) (by decide)
    refine go_dup (pc' := 28) W69 d0_27 rfl rfl ?_
    refine go_lload (pc' := 30) W69 d0_28 rfl rfl ?_
    refine go_callN (a := b69) (kc := K1) (argsL := [(.long x1)]) (rest := [(.ref b69)]) (pc' := 33) W69 (w3 hw) (w4 hw) (w2 hw) (w5 hw) (rm1 E.l Z a0 hw b69 x1 h69 n0 z76 A69 f77 ge71) rfl rfl (by decide) pd1 rfl rfl rfl (nb rfl) (nb rfl) (nb rfl) (nb rfl) d0_30 rfl ?_
    rintro _ T78 h78 ⟨rfl, K78, e78, fa78⟩ W78
    have f79 := f73.keep K78
    have f80 := f74.keep K78 (ninS ne70 nin0)
    have f81 := A69.keep K78
    have k83 := k75.trans K78 (allS (Or.inr old72) all0)
    have z84 := Nat.le_trans z76 K78.1
    show Go E _ (Fm E T78 33 #[.val (.long x0), .second, .val (.long x1), .second, .val (.int x2), .val (.long x1), .second, .val (.ref b58), .unset, .unset, .unset, .unset, .unset, .unset, .unset, .unset] [(.ref b69)])
    refine go_astore (pc' := 35) (l' := #[.val (.long x0), .second, .val (.long x1), .second, .val (.int x2), .val (.long x1), .second, .val (.ref b58), .val (.ref b69), .unset, .unset, .unset, .unset, .unset, .unset, .unset]) W78 d0_33 rfl rfl rfl ?_
    refine go_lloadN (pc' := 36) W78 d0_35 rfl rfl ?_
    have sc85 := own_sta Sc k83
    have ar85 := own_arr Ar k83
    refine go_callS (kc := K4) (argsL := [(.long x0)]) (rest := []) (pc' := 39) W78 (w16 hw) (w17 hw) (w18 hw) (w19 hw) (rm4 E.l Z a0 hw x0 ca cl h78 n0 z84 sc85 ar85 Sz (fun j hj => by obtain ⟨b, q1, q2⟩ := Cc j hj; exact ⟨b, q1, q2.keep k83⟩)) (by decide) pd2 rfl rfl rfl (nb rfl) (nb rfl) (nb rfl) (nb rfl) d0_36 rfl ?_
    rintro _ T86 h86 ⟨bx86, rfl, e86, K86⟩ W86
    have f87 := f79.keep K86
    have f88 := f80.keep K86 nin0
    have f89 := f81.keep K86
    have f90 := fa78.keep K86 nin0
    have k93 := k83.trans K86 all0
    have z94 := Nat.le_trans z84 K86.1
    show Go E _ (Fm E T86 39 #[.val (.long x0), .second, .val (.long x1), .second, .val (.int x2), .val (.long x1), .second, .val (.ref b58), .val (.ref b69), .unset, .unset, .unset, .unset, .unset, .unset, .unset] [(.ref bx86)])
    refine go_astore (pc' := 41) (l' := #[.val (.long x0), .second, .val (.long x1), .second, .val (.int x2), .val (.long x1), .second, .val (.ref b58), .val (.ref b69), .val (.ref bx86), .unset, .unset, .unset, .unset, .unset, .unset]) W86 d0_39 rfl rfl rfl ?_
    refine go_lloadN (pc' := 42) W86 d0_41 rfl rfl ?_
    refine go_lload (pc' := 44) W86 d0_42 rfl rfl ?_
    refine go_lcmp (pc' := 45) W86 d0_44 rfl ?_
    refine go_if_ne (pt := 52) (pf := 48) W86 d0_45 (by decide) rfl rfl (fun c45_95 => ?_) (fun c45_95 => ?_)
    · -- pc 45 taken
      refine go_iconst (pc' := 53) (z := 0) W86 d0_52 rfl rfl ?_
      refine go_istore (pc' := 55) (l' := #[.val (.long x0), .second, .val (.long x1), .second, .val (.int x2), .val (.long x1), .second, .val (.ref b58), .val (.ref b69), .val (.ref bx86), .val (.int (0 : Int32)), .unset, .unset, .unset, .unset, .unset]) W86 d0_53 rfl rfl ?_
      refine go_aload (pc' := 57) W86 d0_55 rfl rfl rfl ?_
      refine go_aload (pc' := 59) W86 d0_57 rfl rfl rfl ?_
      refine go_callV (a := b58) (kc := K5) (argsL := [(.ref b58)]) (rest := []) (pc' := 62) W86 (w24 hw) (w25 hw) (nf_sel W86 (w27 hw)) (w27 hw) (w26 hw) (w2 hw) (w28 hw) f87 (eq_self E.l Z a0 hw b58 h86 n0 z94) (by decide) pd3 rfl rfl rfl (nb rfl) (nb rfl) (nb rfl) (nb rfl) d0_59 rfl ?_
      rintro _ T96 h96 ⟨rfl, q96⟩ W96
      replace W96 := W96.sub q96
      show Go E _ (Fm E T96 62 #[.val (.long x0), .second, .val (.long x1), .second, .val (.int x2), .val (.long x1), .second, .val (.ref b58), .val (.ref b69), .val (.ref bx86), .val (.int (0 : Int32)), .unset, .unset, .unset, .unset, .unset] [(.int (1 : Int32))])
      refine go_istore (pc' := 64) (l' := #[.val (.long x0), .second, .val (.long x1), .second, .val (.int x2), .val (.long x1), .second, .val (.ref b58), .val (.ref b69), .val (.ref bx86), .val (.int (0 : Int32)), .val (.int (1 : Int32)), .unset, .unset, .unset, .unset]) W96 d0_62 rfl rfl ?_
      refine go_aload (pc' := 66) W96 d0_64 rfl rfl rfl ?_
      refine go_aconstNull (pc' := 67) W96 d0_66 rfl ?_
      refine go_callV (a := b58) (kc := K5) (argsL := [.null]) (rest := []) (pc' := 70) W96 (w24 hw) (w25 hw) (nf_sel W96 (w27 hw)) (w27 hw) (w26 hw) (w2 hw) (w28 hw) f87 (eq_null E.l Z a0 hw b58 h86 n0 z94) (by decide) pd3 rfl rfl rfl (nb rfl) (nb rfl) (nb rfl) (nb rfl) d0_67 rfl ?_
      rintro _ T97 h97 ⟨rfl, q97⟩ W97
      replace W97 := W97.sub q97
      show Go E _ (Fm E T97 70 #[.val (.long x0), .second, .val (.long x1), .second, .val (.int x2), .val (.long x1), .second, .val (.ref b58), .val (.ref b69), .val (.ref bx86), .val (.int (0 : Int32)), .val (.int (1 : Int32)), .unset, .unset, .unset, .unset] [(.int (0 : Int32))])
      refine go_istore (pc' := 72) (l' := #[.val (.long x0), .second, .val (.long x1), .second, .val (.int x2), .val (.long x1), .second, .val (.ref b58), .val (.ref b69), .val (.ref bx86), .val (.int (0 : Int32)), .val (.int (1 : Int32)), .val (.int (0 : Int32)), .unset, .unset, .unset]) W97 d0_70 rfl rfl ?_
      refine go_aload (pc' := 74) W97 d0_72 rfl rfl rfl ?_
      refine go_aload (pc' := 76) W97 d0_74 rfl rfl rfl ?_
      refine go_callV (a := b58) (kc := K5) (argsL := [(.ref bx86)]) (rest := []) (pc' := 79) W97 (w24 hw) (w25 hw) (nf_sel W97 (w27 hw)) (w27 hw) (w26 hw) (w2 hw) (w28 hw) f87 (eq_long E.l Z a0 hw b58 bx86 h86 n0 z94 f87 e86) (by decide) pd3 rfl rfl rfl (nb rfl) (nb rfl) (nb rfl) (nb rfl) d0_76 rfl ?_
      rintro _ T98 h98 ⟨rfl, q98⟩ W98
      replace W98 := W98.sub q98
      show Go E _ (Fm E T98 79 #[.val (.long x0), .second, .val (.long x1), .second, .val (.int x2), .val (.long x1), .second, .val (.ref b58), .val (.ref b69), .val (.ref bx86), .val (.int (0 : Int32)), .val (.int (1 : Int32)), .val (.int (0 : Int32)), .unset, .unset, .unset] [(.int (0 : Int32))])
      refine go_istore (pc' := 81) (l' := #[.val (.long x0), .second, .val (.long x1), .second, .val (.int x2), .val (.long x1), .second, .val (.ref b58), .val (.ref b69), .val (.ref bx86), .val (.int (0 : Int32)), .val (.int (1 : Int32)), .val (.int (0 : Int32)), .val (.int (0 : Int32)), .unset, .unset]) W98 d0_79 rfl rfl ?_
      refine go_aload (pc' := 83) W98 d0_81 rfl rfl rfl ?_
      refine go_aload (pc' := 85) W98 d0_83 rfl rfl rfl ?_
      refine go_callV (a := b58) (kc := K5) (argsL := [(.ref b69)]) (rest := []) (pc' := 88) W98 (w24 hw) (w25 hw) (nf_sel W98 (w27 hw)) (w27 hw) (w26 hw) (w2 hw) (w28 hw) f87 (eq_node E.l Z a0 hw b58 b69 x0 x1 h86 n0 z94 f87 f89 f88 f90 ne70) (by decide) pd3 rfl rfl rfl (nb rfl) (nb rfl) (nb rfl) (nb rfl) d0_85 rfl ?_
      rintro _ T99 h99 ⟨rfl, q99⟩ W99
      replace W99 := W99.sub q99
      show Go E _ (Fm E T99 88 #[.val (.long x0), .second, .val (.long x1), .second, .val (.int x2), .val (.long x1), .second, .val (.ref b58), .val (.ref b69), .val (.ref bx86), .val (.int (0 : Int32)), .val (.int (1 : Int32)), .val (.int (0 : Int32)), .val (.int (0 : Int32)), .unset, .unset] [(.int (own_eqv x0 x1))])
      refine go_istore (pc' := 90) (l' := #[.val (.long x0), .second, .val (.long x1), .second, .val (.int x2), .val (.long x1), .second, .val (.ref b58), .val (.ref b69), .val (.ref bx86), .val (.int (0 : Int32)), .val (.int (1 : Int32)), .val (.int (0 : Int32)), .val (.int (0 : Int32)), .val (.int (own_eqv x0 x1)), .unset]) W99 d0_88 rfl rfl ?_
      refine go_aload (pc' := 92) W99 d0_90 rfl rfl rfl ?_
      refine go_aload (pc' := 94) W99 d0_92 rfl rfl rfl ?_
      refine go_callV (a := b69) (kc := K5) (argsL := [(.ref b58)]) (rest := []) (pc' := 97) W99 (w24 hw) (w25 hw) (nf_sel W99 (w27 hw)) (w27 hw) (w26 hw) (w2 hw) (w28 hw) f89 (eq_node E.l Z a0 hw b69 b58 x1 x0 h86 n0 z94 f89 f87 f90 f88 (Ne.symm ne70)) (by decide) pd3 rfl rfl rfl (nb rfl) (nb rfl) (nb rfl) (nb rfl) d0_94 rfl ?_
      rintro _ T100 h100 ⟨rfl, q100⟩ W100
      replace W100 := W100.sub q100
      show Go E _ (Fm E T100 97 #[.val (.long x0), .second, .val (.long x1), .second, .val (.int x2), .val (.long x1), .second, .val (.ref b58), .val (.ref b69), .val (.ref bx86), .val (.int (0 : Int32)), .val (.int (1 : Int32)), .val (.int (0 : Int32)), .val (.int (0 : Int32)), .val (.int (own_eqv x0 x1)), .unset] [(.int (own_eqv x1 x0))])
      refine go_istore (pc' := 99) (l' := #[.val (.long x0), .second, .val (.long x1), .second, .val (.int x2), .val (.long x1), .second, .val (.ref b58), .val (.ref b69), .val (.ref bx86), .val (.int (0 : Int32)), .val (.int (1 : Int32)), .val (.int (0 : Int32)), .val (.int (0 : Int32)), .val (.int (own_eqv x0 x1)), .val (.int (own_eqv x1 x0))]) W100 d0_97 rfl rfl ?_
      refine go_iload (pc' := 101) W100 d0_99 rfl rfl ?_
      refine go_if_eq (pt := 132) (pf := 104) W100 d0_101 (by decide) rfl rfl (fun c101_101 => ?_) (fun c101_101 => ?_)
      · exact absurd c101_101 (by decide)
      · -- pc 101 not taken
        refine go_iload (pc' := 106) W100 d0_104 rfl rfl ?_
        refine go_if_ne (pt := 132) (pf := 109) W100 d0_106 (by decide) rfl rfl (fun c106_102 => ?_) (fun c106_102 => ?_)
        · exact absurd c106_102 (by decide)
        · -- pc 106 not taken
          refine go_iload (pc' := 111) W100 d0_109 rfl rfl ?_
          refine go_if_ne (pt := 132) (pf := 114) W100 d0_111 (by decide) rfl rfl (fun c111_103 => ?_) (fun c111_103 => ?_)
          · exact absurd c111_103 (by decide)
          · -- pc 111 not taken
            refine go_iload (pc' := 116) W100 d0_114 rfl rfl ?_
            refine go_iload (pc' := 118) W100 d0_116 rfl rfl ?_
            refine go_icmp_ne (pt := 132) (pf := 121) W100 d0_118 (by decide) rfl rfl (fun c118_104 => ?_) (fun c118_104 => ?_)
            · exact absurd (by simp [own_eqv, c4_57, c45_95, c101_101, c106_102, c111_103]) c118_104
            · -- pc 118 not taken
              refine go_iload (pc' := 123) W100 d0_121 rfl rfl ?_
              refine go_iload (pc' := 125) W100 d0_123 rfl rfl ?_
              refine go_icmp_ne (pt := 132) (pf := 128) W100 d0_125 (by decide) rfl rfl (fun c125_105 => ?_) (fun c125_105 => ?_)
              · exact absurd (by simp [own_eqv, c4_57, c45_95, c101_101, c106_102, c111_103, c118_104, own_nsym c45_95]) c125_105
              · -- pc 125 not taken
                refine go_iconst (pc' := 129) (z := 1) W100 d0_128 rfl rfl ?_
                refine go_goto (pc' := 133) W100 d0_129 (by decide) rfl ?_
                exact go_retI W100 (t := .boolean) rfl (by simp) rfl d0_133 (nb rfl) (nb rfl) (rfl)
    · -- pc 45 not taken
      refine go_iconst (pc' := 49) (z := 1) W86 d0_48 rfl rfl ?_
      refine go_goto (pc' := 53) W86 d0_49 (by decide) rfl ?_
      refine go_istore (pc' := 55) (l' := #[.val (.long x0), .second, .val (.long x1), .second, .val (.int x2), .val (.long x1), .second, .val (.ref b58), .val (.ref b69), .val (.ref bx86), .val (.int (1 : Int32)), .unset, .unset, .unset, .unset, .unset]) W86 d0_53 rfl rfl ?_
      refine go_aload (pc' := 57) W86 d0_55 rfl rfl rfl ?_
      refine go_aload (pc' := 59) W86 d0_57 rfl rfl rfl ?_
      refine go_callV (a := b58) (kc := K5) (argsL := [(.ref b58)]) (rest := []) (pc' := 62) W86 (w24 hw) (w25 hw) (nf_sel W86 (w27 hw)) (w27 hw) (w26 hw) (w2 hw) (w28 hw) f87 (eq_self E.l Z a0 hw b58 h86 n0 z94) (by decide) pd3 rfl rfl rfl (nb rfl) (nb rfl) (nb rfl) (nb rfl) d0_59 rfl ?_
      rintro _ T106 h106 ⟨rfl, q106⟩ W106
      replace W106 := W106.sub q106
      show Go E _ (Fm E T106 62 #[.val (.long x0), .second, .val (.long x1), .second, .val (.int x2), .val (.long x1), .second, .val (.ref b58), .val (.ref b69), .val (.ref bx86), .val (.int (1 : Int32)), .unset, .unset, .unset, .unset, .unset] [(.int (1 : Int32))])
      refine go_istore (pc' := 64) (l' := #[.val (.long x0), .second, .val (.long x1), .second, .val (.int x2), .val (.long x1), .second, .val (.ref b58), .val (.ref b69), .val (.ref bx86), .val (.int (1 : Int32)), .val (.int (1 : Int32)), .unset, .unset, .unset, .unset]) W106 d0_62 rfl rfl ?_
      refine go_aload (pc' := 66) W106 d0_64 rfl rfl rfl ?_
      refine go_aconstNull (pc' := 67) W106 d0_66 rfl ?_
      refine go_callV (a := b58) (kc := K5) (argsL := [.null]) (rest := []) (pc' := 70) W106 (w24 hw) (w25 hw) (nf_sel W106 (w27 hw)) (w27 hw) (w26 hw) (w2 hw) (w28 hw) f87 (eq_null E.l Z a0 hw b58 h86 n0 z94) (by decide) pd3 rfl rfl rfl (nb rfl) (nb rfl) (nb rfl) (nb rfl) d0_67 rfl ?_
      rintro _ T107 h107 ⟨rfl, q107⟩ W107
      replace W107 := W107.sub q107
      show Go E _ (Fm E T107 70 #[.val (.long x0), .second, .val (.long x1), .second, .val (.int x2), .val (.long x1), .second, .val (.ref b58), .val (.ref b69), .val (.ref bx86), .val (.int (1 : Int32)), .val (.int (1 : Int32)), .unset, .unset, .unset, .unset] [(.int (0 : Int32))])
      refine go_istore (pc' := 72) (l' := #[.val (.long x0), .second, .val (.long x1), .second, .val (.int x2), .val (.long x1), .second, .val (.ref b58), .val (.ref b69), .val (.ref bx86), .val (.int (1 : Int32)), .val (.int (1 : Int32)), .val (.int (0 : Int32)), .unset, .unset, .unset]) W107 d0_70 rfl rfl ?_
      refine go_aload (pc' := 74) W107 d0_72 rfl rfl rfl ?_
      refine go_aload (pc' := 76) W107 d0_74 rfl rfl rfl ?_
      refine go_callV (a := b58) (kc := K5) (argsL := [(.ref bx86)]) (rest := []) (pc' := 79) W107 (w24 hw) (w25 hw) (nf_sel W107 (w27 hw)) (w27 hw) (w26 hw) (w2 hw) (w28 hw) f87 (eq_long E.l Z a0 hw b58 bx86 h86 n0 z94 f87 e86) (by decide) pd3 rfl rfl rfl (nb rfl) (nb rfl) (nb rfl) (nb rfl) d0_76 rfl ?_
      rintro _ T108 h108 ⟨rfl, q108⟩ W108
      replace W108 := W108.sub q108
      show Go E _ (Fm E T108 79 #[.val (.long x0), .second, .val (.long x1), .second, .val (.int x2), .val (.long x1), .second, .val (.ref b58), .val (.ref b69), .val (.ref bx86), .val (.int (1 : Int32)), .val (.int (1 : Int32)), .val (.int (0 : Int32)), .unset, .unset, .unset] [(.int (0 : Int32))])
      refine go_istore (pc' := 81) (l' := #[.val (.long x0), .second, .val (.long x1), .second, .val (.int x2), .val (.long x1), .second, .val (.ref b58), .val (.ref b69), .val (.ref bx86), .val (.int (1 : Int32)), .val (.int (1 : Int32)), .val (.int (0 : Int32)), .val (.int (0 : Int32)), .unset, .unset]) W108 d0_79 rfl rfl ?_
      refine go_aload (pc' := 83) W108 d0_81 rfl rfl rfl ?_
      refine go_aload (pc' := 85) W108 d0_83 rfl rfl rfl ?_
      refine go_callV (a := b58) (kc := K5) (argsL := [(.ref b69)]) (rest := []) (pc' := 88) W108 (w24 hw) (w25 hw) (nf_sel W108 (w27 hw)) (w27 hw) (w26 hw) (w2 hw) (w28 hw) f87 (eq_node E.l Z a0 hw b58 b69 x0 x1 h86 n0 z94 f87 f89 f88 f90 ne70) (by decide) pd3 rfl rfl rfl (nb rfl) (nb rfl) (nb rfl) (nb rfl) d0_85 rfl ?_
      rintro _ T109 h109 ⟨rfl, q109⟩ W109
      replace W109 := W109.sub q109
      show Go E _ (Fm E T109 88 #[.val (.long x0), .second, .val (.long x1), .second, .val (.int x2), .val (.long x1), .second, .val (.ref b58), .val (.ref b69), .val (.ref bx86), .val (.int (1 : Int32)), .val (.int (1 : Int32)), .val (.int (0 : Int32)), .val (.int (0 : Int32)), .unset, .unset] [(.int (own_eqv x0 x1))])
      refine go_istore (pc' := 90) (l' := #[.val (.long x0), .second, .val (.long x1), .second, .val (.int x2), .val (.long x1), .second, .val (.ref b58), .val (.ref b69), .val (.ref bx86), .val (.int (1 : Int32)), .val (.int (1 : Int32)), .val (.int (0 : Int32)), .val (.int (0 : Int32)), .val (.int (own_eqv x0 x1)), .unset]) W109 d0_88 rfl rfl ?_
      refine go_aload (pc' := 92) W109 d0_90 rfl rfl rfl ?_
      refine go_aload (pc' := 94) W109 d0_92 rfl rfl rfl ?_
      refine go_callV (a := b69) (kc := K5) (argsL := [(.ref b58)]) (rest := []) (pc' := 97) W109 (w24 hw) (w25 hw) (nf_sel W109 (w27 hw)) (w27 hw) (w26 hw) (w2 hw) (w28 hw) f89 (eq_node E.l Z a0 hw b69 b58 x1 x0 h86 n0 z94 f89 f87 f90 f88 (Ne.symm ne70)) (by decide) pd3 rfl rfl rfl (nb rfl) (nb rfl) (nb rfl) (nb rfl) d0_94 rfl ?_
      rintro _ T110 h110 ⟨rfl, q110⟩ W110
      replace W110 := W110.sub q110
      show Go E _ (Fm E T110 97 #[.val (.long x0), .second, .val (.long x1), .second, .val (.int x2), .val (.long x1), .second, .val (.ref b58), .val (.ref b69), .val (.ref bx86), .val (.int (1 : Int32)), .val (.int (1 : Int32)), .val (.int (0 : Int32)), .val (.int (0 : Int32)), .val (.int (own_eqv x0 x1)), .unset] [(.int (own_eqv x1 x0))])
      refine go_istore (pc' := 99) (l' := #[.val (.long x0), .second, .val (.long x1), .second, .val (.int x2), .val (.long x1), .second, .val (.ref b58), .val (.ref b69), .val (.ref bx86), .val (.int (1 : Int32)), .val (.int (1 : Int32)), .val (.int (0 : Int32)), .val (.int (0 : Int32)), .val (.int (own_eqv x0 x1)), .val (.int (own_eqv x1 x0))]) W110 d0_97 rfl rfl ?_
      refine go_iload (pc' := 101) W110 d0_99 rfl rfl ?_
      refine go_if_eq (pt := 132) (pf := 104) W110 d0_101 (by decide) rfl rfl (fun c101_111 => ?_) (fun c101_111 => ?_)
      · exact absurd c101_111 (by decide)
      · -- pc 101 not taken
        refine go_iload (pc' := 106) W110 d0_104 rfl rfl ?_
        refine go_if_ne (pt := 132) (pf := 109) W110 d0_106 (by decide) rfl rfl (fun c106_112 => ?_) (fun c106_112 => ?_)
        · exact absurd c106_112 (by decide)
        · -- pc 106 not taken
          refine go_iload (pc' := 111) W110 d0_109 rfl rfl ?_
          refine go_if_ne (pt := 132) (pf := 114) W110 d0_111 (by decide) rfl rfl (fun c111_113 => ?_) (fun c111_113 => ?_)
          · exact absurd c111_113 (by decide)
          · -- pc 111 not taken
            refine go_iload (pc' := 116) W110 d0_114 rfl rfl ?_
            refine go_iload (pc' := 118) W110 d0_116 rfl rfl ?_
            refine go_icmp_ne (pt := 132) (pf := 121) W110 d0_118 (by decide) rfl rfl (fun c118_114 => ?_) (fun c118_114 => ?_)
            · exact absurd (by simp [own_eqv, c4_57, c45_95, c101_111, c106_112, c111_113]) c118_114
            · -- pc 118 not taken
              refine go_iload (pc' := 123) W110 d0_121 rfl rfl ?_
              refine go_iload (pc' := 125) W110 d0_123 rfl rfl ?_
              refine go_icmp_ne (pt := 132) (pf := 128) W110 d0_125 (by decide) rfl rfl (fun c125_115 => ?_) (fun c125_115 => ?_)
              · exact absurd (by simp [own_eqv, c4_57, c45_95, c101_111, c106_112, c111_113, c118_114, own_sym c45_95]) c125_115
              · -- pc 125 not taken
                refine go_iconst (pc' := 129) (z := 1) W110 d0_128 rfl rfl ?_
                refine go_goto (pc' := 133) W110 d0_129 (by decide) rfl ?_
                exact go_retI W110 (t := .boolean) rfl (by simp) rfl d0_133 (nb rfl) (nb rfl) (rfl)
  · -- pc 4 not taken
    refine go_lloadN (pc' := 8) W d0_7 rfl rfl ?_
    refine go_goto (pc' := 12) W d0_8 (by decide) rfl ?_
    refine go_lstore (pc' := 14) (l' := #[.val (.long x0), .second, .val (.long x1), .second, .val (.int x2), .val (.long x0), .second, .unset, .unset, .unset, .unset, .unset, .unset, .unset, .unset, .unset]) W d0_12 rfl rfl ?_
    refine go_new (pc' := 17) W (w0 hw) (w1 hw) (w2 hw) d0_14 (nb rfl) (nb rfl) rfl ?_
    intro T116 h116 b116 g116 W116 E116 A116 D116 M116
    have ge117 : n0 ≤ b116 := by rw [g116]; exact Z0
    have old118 : h0.size ≤ b116 := by rw [g116]; exact (Keep.refl h0 []).1
    have k119 := (Keep.refl h0 []).ext E116
    have z120 := Nat.le_trans Z0 E116.1
    have f121 : Fld Z h116 b116 "com/example/hornstone/hornstone/rdf/BlankNode" "id" "J" (.long (0 : Int64)) := D116 (Or.inr (w15 hw)) (ty := .long) (by decide)
    refine go_dup (pc' := 18) W116 d0_17 rfl rfl ?_
    refine go_lloadN (pc' := 19) W116 d0_18 rfl rfl ?_
    refine go_callN (a := b116) (kc := K1) (argsL := [(.long x0)]) (rest := [(.ref b116)]) (pc' := 22) W116 (w3 hw) (w4 hw) (w2 hw) (w5 hw) (rm1 E.l Z a0 hw b116 x0 h116 n0 z120 A116 f121 ge117) rfl rfl (by decide) pd1 rfl rfl rfl (nb rfl) (nb rfl) (nb rfl) (nb rfl) d0_19 rfl ?_
    rintro _ T122 h122 ⟨rfl, K122, e122, fa122⟩ W122
    have f123 := A116.keep K122
    have k125 := k119.trans K122 (allS (Or.inr old118) all0)
    have z126 := Nat.le_trans z120 K122.1
    show Go E _ (Fm E T122 22 #[.val (.long x0), .second, .val (.long x1), .second, .val (.int x2), .val (.long x0), .second, .unset, .unset, .unset, .unset, .unset, .unset, .unset, .unset, .unset] [(.ref b116)])
    refine go_astore (pc' := 24) (l' := #[.val (.long x0), .second, .val (.long x1), .second, .val (.int x2), .val (.long x0), .second, .val (.ref b116), .unset, .unset, .unset, .unset, .unset, .unset, .unset, .unset]) W122 d0_22 rfl rfl rfl ?_
    refine go_new (pc' := 27) W122 (w0 hw) (w1 hw) (w2 hw) d0_24 (nb rfl) (nb rfl) rfl ?_
    intro T127 h127 b127 g127 W127 E127 A127 D127 M127
    have ne128 : b116 ≠ b127 := by rw [g127]; exact Nat.ne_of_lt f123.lt
    have ge129 : n0 ≤ b127 := by rw [g127]; exact z126
    have old130 : h0.size ≤ b127 := by rw [g127]; exact k125.1
    have f131 := f123.ext E127
    have f132 := fa122.ext E127
    have k133 := k125.ext E127
    have z134 := Nat.le_trans z126 E127.1
    have f135 : Fld Z h127 b127 "com/example/hornstone/hornstone/rdf/BlankNode" "id" "J" (.long (0 : Int64)) := D127 (Or.inr (w15 hw)) (ty := .long) (by decide)
    refine go_dup (pc' := 28) W127 d0_27 rfl rfl ?_
    refine go_lload (pc' := 30) W127 d0_28 rfl rfl ?_
    refine go_callN (a := b127) (kc := K1) (argsL := [(.long x0)]) (rest := [(.ref b127)]) (pc' := 33) W127 (w3 hw) (w4 hw) (w2 hw) (w5 hw) (rm1 E.l Z a0 hw b127 x0 h127 n0 z134 A127 f135 ge129) rfl rfl (by decide) pd1 rfl rfl rfl (nb rfl) (nb rfl) (nb rfl) (nb rfl) d0_30 rfl ?_
    rintro _ T136 h136 ⟨rfl, K136, e136, fa136⟩ W136
    have f137 := f131.keep K136
    have f138 := f132.keep K136 (ninS ne128 nin0)
    have f139 := A127.keep K136
    have k141 := k133.trans K136 (allS (Or.inr old130) all0)
    have z142 := Nat.le_trans z134 K136.1
    show Go E _ (Fm E T136 33 #[.val (.long x0), .second, .val (.long x1), .second, .val (.int x2), .val (.long x0), .second, .val (.ref b116), .unset, .unset, .unset, .unset, .unset, .unset, .unset, .unset] [(.ref b127)])
    refine go_astore (pc' := 35) (l' := #[.val (.long x0), .second, .val (.long x1), .second, .val (.int x2), .val (.long x0), .second, .val (.ref b116), .val (.ref b127), .unset, .unset, .unset, .unset, .unset, .unset, .unset]) W136 d0_33 rfl rfl rfl ?_
    refine go_lloadN (pc' := 36) W136 d0_35 rfl rfl ?_
    have sc143 := own_sta Sc k141
    have ar143 := own_arr Ar k141
    refine go_callS (kc := K4) (argsL := [(.long x0)]) (rest := []) (pc' := 39) W136 (w16 hw) (w17 hw) (w18 hw) (w19 hw) (rm4 E.l Z a0 hw x0 ca cl h136 n0 z142 sc143 ar143 Sz (fun j hj => by obtain ⟨b, q1, q2⟩ := Cc j hj; exact ⟨b, q1, q2.keep k141⟩)) (by decide) pd2 rfl rfl rfl (nb rfl) (nb rfl) (nb rfl) (nb rfl) d0_36 rfl ?_
    rintro _ T144 h144 ⟨bx144, rfl, e144, K144⟩ W144
    have f145 := f137.keep K144
    have f146 := f138.keep K144 nin0
    have f147 := f139.keep K144
    have f148 := fa136.keep K144 nin0
    have k151 := k141.trans K144 all0
    have z152 := Nat.le_trans z142 K144.1
    show Go E _ (Fm E T144 39 #[.val (.long x0), .second, .val (.long x1), .second, .val (.int x2), .val (.long x0), .second, .val (.ref b116), .val (.ref b127), .unset, .unset, .unset, .unset, .unset, .unset, .unset] [(.ref bx144)])
    refine go_astore (pc' := 41) (l' := #[.val (.long x0), .second, .val (.long x1), .second, .val (.int x2), .val (.long x0), .second, .val (.ref b116), .val (.ref b127), .val (.ref bx144), .unset, .unset, .unset, .unset, .unset, .unset]) W144 d0_39 rfl rfl rfl ?_
    refine go_lloadN (pc' := 42) W144 d0_41 rfl rfl ?_
    refine go_lload (pc' := 44) W144 d0_42 rfl rfl ?_
    refine go_lcmp (pc' := 45) W144 d0_44 rfl ?_
    refine go_if_ne (pt := 52) (pf := 48) W144 d0_45 (by decide) rfl rfl (fun c45_153 => ?_) (fun c45_153 => ?_)
    · -- pc 45 taken
      refine go_iconst (pc' := 53) (z := 0) W144 d0_52 rfl rfl ?_
      refine go_istore (pc' := 55) (l' := #[.val (.long x0), .second, .val (.long x1), .second, .val (.int x2), .val (.long x0), .second, .val (.ref b116), .val (.ref b127), .val (.ref bx144), .val (.int (0 : Int32)), .unset, .unset, .unset, .unset, .unset]) W144 d0_53 rfl rfl ?_
      refine go_aload (pc' := 57) W144 d0_55 rfl rfl rfl ?_
      refine go_aload (pc' := 59) W144 d0_57 rfl rfl rfl ?_
      refine go_callV (a := b116) (kc := K5) (argsL := [(.ref b116)]) (rest := []) (pc' := 62) W144 (w24 hw) (w25 hw) (nf_sel W144 (w27 hw)) (w27 hw) (w26 hw) (w2 hw) (w28 hw) f145 (eq_self E.l Z a0 hw b116 h144 n0 z152) (by decide) pd3 rfl rfl rfl (nb rfl) (nb rfl) (nb rfl) (nb rfl) d0_59 rfl ?_
      rintro _ T154 h154 ⟨rfl, q154⟩ W154
      replace W154 := W154.sub q154
      show Go E _ (Fm E T154 62 #[.val (.long x0), .second, .val (.long x1), .second, .val (.int x2), .val (.long x0), .second, .val (.ref b116), .val (.ref b127), .val (.ref bx144), .val (.int (0 : Int32)), .unset, .unset, .unset, .unset, .unset] [(.int (1 : Int32))])
      refine go_istore (pc' := 64) (l' := #[.val (.long x0), .second, .val (.long x1), .second, .val (.int x2), .val (.long x0), .second, .val (.ref b116), .val (.ref b127), .val (.ref bx144), .val (.int (0 : Int32)), .val (.int (1 : Int32)), .unset, .unset, .unset, .unset]) W154 d0_62 rfl rfl ?_
      refine go_aload (pc' := 66) W154 d0_64 rfl rfl rfl ?_
      refine go_aconstNull (pc' := 67) W154 d0_66 rfl ?_
      refine go_callV (a := b116) (kc := K5) (argsL := [.null]) (rest := []) (pc' := 70) W154 (w24 hw) (w25 hw) (nf_sel W154 (w27 hw)) (w27 hw) (w26 hw) (w2 hw) (w28 hw) f145 (eq_null E.l Z a0 hw b116 h144 n0 z152) (by decide) pd3 rfl rfl rfl (nb rfl) (nb rfl) (nb rfl) (nb rfl) d0_67 rfl ?_
      rintro _ T155 h155 ⟨rfl, q155⟩ W155
      replace W155 := W155.sub q155
      show Go E _ (Fm E T155 70 #[.val (.long x0), .second, .val (.long x1), .second, .val (.int x2), .val (.long x0), .second, .val (.ref b116), .val (.ref b127), .val (.ref bx144), .val (.int (0 : Int32)), .val (.int (1 : Int32)), .unset, .unset, .unset, .unset] [(.int (0 : Int32))])
      refine go_istore (pc' := 72) (l' := #[.val (.long x0), .second, .val (.long x1), .second, .val (.int x2), .val (.long x0), .second, .val (.ref b116), .val (.ref b127), .val (.ref bx144), .val (.int (0 : Int32)), .val (.int (1 : Int32)), .val (.int (0 : Int32)), .unset, .unset, .unset]) W155 d0_70 rfl rfl ?_
      refine go_aload (pc' := 74) W155 d0_72 rfl rfl rfl ?_
      refine go_aload (pc' := 76) W155 d0_74 rfl rfl rfl ?_
      refine go_callV (a := b116) (kc := K5) (argsL := [(.ref bx144)]) (rest := []) (pc' := 79) W155 (w24 hw) (w25 hw) (nf_sel W155 (w27 hw)) (w27 hw) (w26 hw) (w2 hw) (w28 hw) f145 (eq_long E.l Z a0 hw b116 bx144 h144 n0 z152 f145 e144) (by decide) pd3 rfl rfl rfl (nb rfl) (nb rfl) (nb rfl) (nb rfl) d0_76 rfl ?_
      rintro _ T156 h156 ⟨rfl, q156⟩ W156
      replace W156 := W156.sub q156
      show Go E _ (Fm E T156 79 #[.val (.long x0), .second, .val (.long x1), .second, .val (.int x2), .val (.long x0), .second, .val (.ref b116), .val (.ref b127), .val (.ref bx144), .val (.int (0 : Int32)), .val (.int (1 : Int32)), .val (.int (0 : Int32)), .unset, .unset, .unset] [(.int (0 : Int32))])
      refine go_istore (pc' := 81) (l' := #[.val (.long x0), .second, .val (.long x1), .second, .val (.int x2), .val (.long x0), .second, .val (.ref b116), .val (.ref b127), .val (.ref bx144), .val (.int (0 : Int32)), .val (.int (1 : Int32)), .val (.int (0 : Int32)), .val (.int (0 : Int32)), .unset, .unset]) W156 d0_79 rfl rfl ?_
      refine go_aload (pc' := 83) W156 d0_81 rfl rfl rfl ?_
      refine go_aload (pc' := 85) W156 d0_83 rfl rfl rfl ?_
      refine go_callV (a := b116) (kc := K5) (argsL := [(.ref b127)]) (rest := []) (pc' := 88) W156 (w24 hw) (w25 hw) (nf_sel W156 (w27 hw)) (w27 hw) (w26 hw) (w2 hw) (w28 hw) f145 (eq_node E.l Z a0 hw b116 b127 x0 x0 h144 n0 z152 f145 f147 f146 f148 ne128) (by decide) pd3 rfl rfl rfl (nb rfl) (nb rfl) (nb rfl) (nb rfl) d0_85 rfl ?_
      rintro _ T157 h157 ⟨rfl, q157⟩ W157
      replace W157 := W157.sub q157
      show Go E _ (Fm E T157 88 #[.val (.long x0), .second, .val (.long x1), .second, .val (.int x2), .val (.long x0), .second, .val (.ref b116), .val (.ref b127), .val (.ref bx144), .val (.int (0 : Int32)), .val (.int (1 : Int32)), .val (.int (0 : Int32)), .val (.int (0 : Int32)), .unset, .unset] [(.int (own_eqv x0 x0))])
      refine go_istore (pc' := 90) (l' := #[.val (.long x0), .second, .val (.long x1), .second, .val (.int x2), .val (.long x0), .second, .val (.ref b116), .val (.ref b127), .val (.ref bx144), .val (.int (0 : Int32)), .val (.int (1 : Int32)), .val (.int (0 : Int32)), .val (.int (0 : Int32)), .val (.int (own_eqv x0 x0)), .unset]) W157 d0_88 rfl rfl ?_
      refine go_aload (pc' := 92) W157 d0_90 rfl rfl rfl ?_
      refine go_aload (pc' := 94) W157 d0_92 rfl rfl rfl ?_
      refine go_callV (a := b127) (kc := K5) (argsL := [(.ref b116)]) (rest := []) (pc' := 97) W157 (w24 hw) (w25 hw) (nf_sel W157 (w27 hw)) (w27 hw) (w26 hw) (w2 hw) (w28 hw) f147 (eq_node E.l Z a0 hw b127 b116 x0 x0 h144 n0 z152 f147 f145 f148 f146 (Ne.symm ne128)) (by decide) pd3 rfl rfl rfl (nb rfl) (nb rfl) (nb rfl) (nb rfl) d0_94 rfl ?_
      rintro _ T158 h158 ⟨rfl, q158⟩ W158
      replace W158 := W158.sub q158
      show Go E _ (Fm E T158 97 #[.val (.long x0), .second, .val (.long x1), .second, .val (.int x2), .val (.long x0), .second, .val (.ref b116), .val (.ref b127), .val (.ref bx144), .val (.int (0 : Int32)), .val (.int (1 : Int32)), .val (.int (0 : Int32)), .val (.int (0 : Int32)), .val (.int (own_eqv x0 x0)), .unset] [(.int (own_eqv x0 x0))])
      refine go_istore (pc' := 99) (l' := #[.val (.long x0), .second, .val (.long x1), .second, .val (.int x2), .val (.long x0), .second, .val (.ref b116), .val (.ref b127), .val (.ref bx144), .val (.int (0 : Int32)), .val (.int (1 : Int32)), .val (.int (0 : Int32)), .val (.int (0 : Int32)), .val (.int (own_eqv x0 x0)), .val (.int (own_eqv x0 x0))]) W158 d0_97 rfl rfl ?_
      refine go_iload (pc' := 101) W158 d0_99 rfl rfl ?_
      refine go_if_eq (pt := 132) (pf := 104) W158 d0_101 (by decide) rfl rfl (fun c101_159 => ?_) (fun c101_159 => ?_)
      · exact absurd c101_159 (by decide)
      · -- pc 101 not taken
        refine go_iload (pc' := 106) W158 d0_104 rfl rfl ?_
        refine go_if_ne (pt := 132) (pf := 109) W158 d0_106 (by decide) rfl rfl (fun c106_160 => ?_) (fun c106_160 => ?_)
        · exact absurd c106_160 (by decide)
        · -- pc 106 not taken
          refine go_iload (pc' := 111) W158 d0_109 rfl rfl ?_
          refine go_if_ne (pt := 132) (pf := 114) W158 d0_111 (by decide) rfl rfl (fun c111_161 => ?_) (fun c111_161 => ?_)
          · exact absurd c111_161 (by decide)
          · -- pc 111 not taken
            refine go_iload (pc' := 116) W158 d0_114 rfl rfl ?_
            refine go_iload (pc' := 118) W158 d0_116 rfl rfl ?_
            refine go_icmp_ne (pt := 132) (pf := 121) W158 d0_118 (by decide) rfl rfl (fun c118_162 => ?_) (fun c118_162 => ?_)
            · exact absurd (by simp [own_eqv, c4_57, c45_153, c101_159, c106_160, c111_161]) c118_162
            · -- pc 118 not taken
              refine go_iload (pc' := 123) W158 d0_121 rfl rfl ?_
              refine go_iload (pc' := 125) W158 d0_123 rfl rfl ?_
              refine go_icmp_ne (pt := 132) (pf := 128) W158 d0_125 (by decide) rfl rfl (fun c125_163 => ?_) (fun c125_163 => ?_)
              · exact absurd (by simp [own_eqv, c4_57, c45_153, c101_159, c106_160, c111_161, c118_162, own_nsym c45_153]) c125_163
              · -- pc 125 not taken
                refine go_iconst (pc' := 129) (z := 1) W158 d0_128 rfl rfl ?_
                refine go_goto (pc' := 133) W158 d0_129 (by decide) rfl ?_
                exact go_retI W158 (t := .boolean) rfl (by simp) rfl d0_133 (nb rfl) (nb rfl) (rfl)
    · -- pc 45 not taken
      refine go_iconst (pc' := 49) (z := 1) W144 d0_48 rfl rfl ?_
      refine go_goto (pc' := 53) W144 d0_49 (by decide) rfl ?_
      refine go_istore (pc' := 55) (l' := #[.val (.long x0), .second, .val (.long x1), .second, .val (.int x2), .val (.long x0), .second, .val (.ref b116), .val (.ref b127), .val (.ref bx144), .val (.int (1 : Int32)), .unset, .unset, .unset, .unset, .unset]) W144 d0_53 rfl rfl ?_
      refine go_aload (pc' := 57) W144 d0_55 rfl rfl rfl ?_
      refine go_aload (pc' := 59) W144 d0_57 rfl rfl rfl ?_
      refine go_callV (a := b116) (kc := K5) (argsL := [(.ref b116)]) (rest := []) (pc' := 62) W144 (w24 hw) (w25 hw) (nf_sel W144 (w27 hw)) (w27 hw) (w26 hw) (w2 hw) (w28 hw) f145 (eq_self E.l Z a0 hw b116 h144 n0 z152) (by decide) pd3 rfl rfl rfl (nb rfl) (nb rfl) (nb rfl) (nb rfl) d0_59 rfl ?_
      rintro _ T164 h164 ⟨rfl, q164⟩ W164
      replace W164 := W164.sub q164
      show Go E _ (Fm E T164 62 #[.val (.long x0), .second, .val (.long x1), .second, .val (.int x2), .val (.long x0), .second, .val (.ref b116), .val (.ref b127), .val (.ref bx144), .val (.int (1 : Int32)), .unset, .unset, .unset, .unset, .unset] [(.int (1 : Int32))])
      refine go_istore (pc' := 64) (l' := #[.val (.long x0), .second, .val (.long x1), .second, .val (.int x2), .val (.long x0), .second, .val (.ref b116), .val (.ref b127), .val (.ref bx144), .val (.int (1 : Int32)), .val (.int (1 : Int32)), .unset, .unset, .unset, .unset]) W164 d0_62 rfl rfl ?_
      refine go_aload (pc' := 66) W164 d0_64 rfl rfl rfl ?_
      refine go_aconstNull (pc' := 67) W164 d0_66 rfl ?_
      refine go_callV (a := b116) (kc := K5) (argsL := [.null]) (rest := []) (pc' := 70) W164 (w24 hw) (w25 hw) (nf_sel W164 (w27 hw)) (w27 hw) (w26 hw) (w2 hw) (w28 hw) f145 (eq_null E.l Z a0 hw b116 h144 n0 z152) (by decide) pd3 rfl rfl rfl (nb rfl) (nb rfl) (nb rfl) (nb rfl) d0_67 rfl ?_
      rintro _ T165 h165 ⟨rfl, q165⟩ W165
      replace W165 := W165.sub q165
      show Go E _ (Fm E T165 70 #[.val (.long x0), .second, .val (.long x1), .second, .val (.int x2), .val (.long x0), .second, .val (.ref b116), .val (.ref b127), .val (.ref bx144), .val (.int (1 : Int32)), .val (.int (1 : Int32)), .unset, .unset, .unset, .unset] [(.int (0 : Int32))])
      refine go_istore (pc' := 72) (l' := #[.val (.long x0), .second, .val (.long x1), .second, .val (.int x2), .val (.long x0), .second, .val (.ref b116), .val (.ref b127), .val (.ref bx144), .val (.int (1 : Int32)), .val (.int (1 : Int32)), .val (.int (0 : Int32)), .unset, .unset, .unset]) W165 d0_70 rfl rfl ?_
      refine go_aload (pc' := 74) W165 d0_72 rfl rfl rfl ?_
      refine go_aload (pc' := 76) W165 d0_74 rfl rfl rfl ?_
      refine go_callV (a := b116) (kc := K5) (argsL := [(.ref bx144)]) (rest := []) (pc' := 79) W165 (w24 hw) (w25 hw) (nf_sel W165 (w27 hw)) (w27 hw) (w26 hw) (w2 hw) (w28 hw) f145 (eq_long E.l Z a0 hw b116 bx144 h144 n0 z152 f145 e144) (by decide) pd3 rfl rfl rfl (nb rfl) (nb rfl) (nb rfl) (nb rfl) d0_76 rfl ?_
      rintro _ T166 h166 ⟨rfl, q166⟩ W166
      replace W166 := W166.sub q166
      show Go E _ (Fm E T166 79 #[.val (.long x0), .second, .val (.long x1), .second, .val (.int x2), .val (.long x0), .second, .val (.ref b116), .val (.ref b127), .val (.ref bx144), .val (.int (1 : Int32)), .val (.int (1 : Int32)), .val (.int (0 : Int32)), .unset, .unset, .unset] [(.int (0 : Int32))])
      refine go_istore (pc' := 81) (l' := #[.val (.long x0), .second, .val (.long x1), .second, .val (.int x2), .val (.long x0), .second, .val (.ref b116), .val (.ref b127), .val (.ref bx144), .val (.int (1 : Int32)), .val (.int (1 : Int32)), .val (.int (0 : Int32)), .val (.int (0 : Int32)), .unset, .unset]) W166 d0_79 rfl rfl ?_
      refine go_aload (pc' := 83) W166 d0_81 rfl rfl rfl ?_
      refine go_aload (pc' := 85) W166 d0_83 rfl rfl rfl ?_
      refine go_callV (a := b116) (kc := K5) (argsL := [(.ref b127)]) (rest := []) (pc' := 88) W166 (w24 hw) (w25 hw) (nf_sel W166 (w27 hw)) (w27 hw) (w26 hw) (w2 hw) (w28 hw) f145 (eq_node E.l Z a0 hw b116 b127 x0 x0 h144 n0 z152 f145 f147 f146 f148 ne128) (by decide) pd3 rfl rfl rfl (nb rfl) (nb rfl) (nb rfl) (nb rfl) d0_85 rfl ?_
      rintro _ T167 h167 ⟨rfl, q167⟩ W167
      replace W167 := W167.sub q167
      show Go E _ (Fm E T167 88 #[.val (.long x0), .second, .val (.long x1), .second, .val (.int x2), .val (.long x0), .second, .val (.ref b116), .val (.ref b127), .val (.ref bx144), .val (.int (1 : Int32)), .val (.int (1 : Int32)), .val (.int (0 : Int32)), .val (.int (0 : Int32)), .unset, .unset] [(.int (own_eqv x0 x0))])
      refine go_istore (pc' := 90) (l' := #[.val (.long x0), .second, .val (.long x1), .second, .val (.int x2), .val (.long x0), .second, .val (.ref b116), .val (.ref b127), .val (.ref bx144), .val (.int (1 : Int32)), .val (.int (1 : Int32)), .val (.int (0 : Int32)), .val (.int (0 : Int32)), .val (.int (own_eqv x0 x0)), .unset]) W167 d0_88 rfl rfl ?_
      refine go_aload (pc' := 92) W167 d0_90 rfl rfl rfl ?_
      refine go_aload (pc' := 94) W167 d0_92 rfl rfl rfl ?_
      refine go_callV (a := b127) (kc := K5) (argsL := [(.ref b116)]) (rest := []) (pc' := 97) W167 (w24 hw) (w25 hw) (nf_sel W167 (w27 hw)) (w27 hw) (w26 hw) (w2 hw) (w28 hw) f147 (eq_node E.l Z a0 hw b127 b116 x0 x0 h144 n0 z152 f147 f145 f148 f146 (Ne.symm ne128)) (by decide) pd3 rfl rfl rfl (nb rfl) (nb rfl) (nb rfl) (nb rfl) d0_94 rfl ?_
      rintro _ T168 h168 ⟨rfl, q168⟩ W168
      replace W168 := W168.sub q168
      show Go E _ (Fm E T168 97 #[.val (.long x0), .second, .val (.long x1), .second, .val (.int x2), .val (.long x0), .second, .val (.ref b116), .val (.ref b127), .val (.ref bx144), .val (.int (1 : Int32)), .val (.int (1 : Int32)), .val (.int (0 : Int32)), .val (.int (0 : Int32)), .val (.int (own_eqv x0 x0)), .unset] [(.int (own_eqv x0 x0))])
      refine go_istore (pc' := 99) (l' := #[.val (.long x0), .second, .val (.long x1), .second, .val (.int x2), .val (.long x0), .second, .val (.ref b116), .val (.ref b127), .val (.ref bx144), .val (.int (1 : Int32)), .val (.int (1 : Int32)), .val (.int (0 : Int32)), .val (.int (0 : Int32)), .val (.int (own_eqv x0 x0)), .val (.int (own_eqv x0 x0))]) W168 d0_97 rfl rfl ?_
      refine go_iload (pc' := 101) W168 d0_99 rfl rfl ?_
      refine go_if_eq (pt := 132) (pf := 104) W168 d0_101 (by decide) rfl rfl (fun c101_169 => ?_) (fun c101_169 => ?_)
      · exact absurd c101_169 (by decide)
      · -- pc 101 not taken
        refine go_iload (pc' := 106) W168 d0_104 rfl rfl ?_
        refine go_if_ne (pt := 132) (pf := 109) W168 d0_106 (by decide) rfl rfl (fun c106_170 => ?_) (fun c106_170 => ?_)
        · exact absurd c106_170 (by decide)
        · -- pc 106 not taken
          refine go_iload (pc' := 111) W168 d0_109 rfl rfl ?_
          refine go_if_ne (pt := 132) (pf := 114) W168 d0_111 (by decide) rfl rfl (fun c111_171 => ?_) (fun c111_171 => ?_)
          · exact absurd c111_171 (by decide)
          · -- pc 111 not taken
            refine go_iload (pc' := 116) W168 d0_114 rfl rfl ?_
            refine go_iload (pc' := 118) W168 d0_116 rfl rfl ?_
            refine go_icmp_ne (pt := 132) (pf := 121) W168 d0_118 (by decide) rfl rfl (fun c118_172 => ?_) (fun c118_172 => ?_)
            · exact absurd (by simp [own_eqv, c4_57, c45_153, c101_169, c106_170, c111_171]) c118_172
            · -- pc 118 not taken
              refine go_iload (pc' := 123) W168 d0_121 rfl rfl ?_
              refine go_iload (pc' := 125) W168 d0_123 rfl rfl ?_
              refine go_icmp_ne (pt := 132) (pf := 128) W168 d0_125 (by decide) rfl rfl (fun c125_173 => ?_) (fun c125_173 => ?_)
              · exact absurd (by simp [own_eqv, c4_57, c45_153, c101_169, c106_170, c111_171, c118_172, own_sym c45_153]) c125_173
              · -- pc 125 not taken
                refine go_iconst (pc' := 129) (z := 1) W168 d0_128 rfl rfl ?_
                refine go_goto (pc' := 133) W168 d0_129 (by decide) rfl ?_
                exact go_retI W168 (t := .boolean) rfl (by simp) rfl d0_133 (nb rfl) (nb rfl) (rfl)
theorem own_len31 {args : Array Value} {s : State} {t : Term} {a : Addr} {cell : Cell} {v : Value} (ht : t.eval args s none [] s = some (.ref a)) (hc : s.arrayAt? a = some cell) (h : (Term.length t).eval args s none [] s = some v) : cell.slots.size < 2 ^ 31 := by
  by_cases q : cell.slots.size < 2 ^ 31
  · exact q
  · simp [Term.eval, ht, hc, q] at h
set_option maxRecDepth 65536 in
theorem comes_1 {Post : Tables → Env → Array Value → State → Outcome → State → Prop} (hpost : ∀ tb e args s v u, (limb_1_1.after args s (.returned v) u = true ∧ limb_1_2.after args s (.returned v) u = true) → FrameEnd s (.returned v) u (Jvm.fieldLocs frame_1_writes args s ++ Jvm.arrayLocs frame_1_arrays args s ++ Jvm.staticLocs frame_1_statics s) 16 128 → Post tb e args s (.returned v) u) :
    ArmFor flags0 classFile x code maxLocals ret World_1 tables_1 room_1 Calls_1 rest_1 Pre_1 Post := by
  intro l hfl _ _ p e ha hc hk s m args below hf hA hF happ hP
  obtain ⟨hcalls, hrest, hpre⟩ := hP
  obtain ⟨-, -, -, hnamed, -, -, -, hat⟩ := (Spec.applies_iff hf).mp happ
  obtain ⟨hg, hn⟩ := and_e (Cond.before_iff.mp (show (Jvm.Cond.and given_1 narrow_1).before args s = true from hpre))
  obtain ⟨hct, g0⟩ := and_e hg
  obtain ⟨a0, g1⟩ := and_e g0
  obtain ⟨a1, g2⟩ := and_e g1
  obtain ⟨v0, v1, v2, rfl⟩ : ∃ v0 v1 v2 : Value, args = #[v0, v1, v2] := by
    have hs : args.size = 3 := by simpa [Cond.value, given_1] using hct
    obtain ⟨L⟩ := args
    match L, hs with
    | [v0, v1, v2], _ => exact ⟨v0, v1, v2, rfl⟩
  have hw := fun d (hd : d ∈ tables_1) => atoms_spec (ws := Jvm.Cond.code x code maxLocals ret :: tables_1) hat d (List.mem_cons_of_mem _ hd)
  have hfit : Fit s := fun {y c} hc i hi => by
    obtain ⟨ha, rfl⟩ := Array.getElem?_eq_some_iff.mp hc
    have q := List.all_eq_true.mp ((Array.all_eq_true_iff_forall_mem.mp hF) _ (Array.getElem_mem ha)) i (List.mem_range.mpr hi)
    simpa [Array.getElem?_eq_getElem hi] using q
  obtain ⟨hsets, hown0⟩ := atoms_of _ (rest_1_c_eq ▸ (show rest_1_c.before _ s = true from hrest))
  have hr0 := Cond.before_iff.mp hown0
  obtain ⟨i0, ei0⟩ := isL_v a0
  obtain rfl : v0 = (.long i0) := Option.some.inj ei0
  obtain ⟨i1, ei1⟩ := isL_v a1
  obtain rfl : v1 = (.long i1) := Option.some.inj ei1
  obtain ⟨i2, ei2⟩ := is_v g2
  obtain rfl : v2 = (.int i2) := Option.some.inj ei2
  have s0 := fun i (w : Jvm.Cond) (h : jdkStatics_1[i]? = some w) => hsets w (List.mem_of_getElem? h)
  have q1 := s0 1 _ rfl
  have q2 := Cond.before_iff.mp (s0 2 _ rfl)
  have q4 := Cond.before_iff.mp (s0 4 _ rfl)
  have q5 := Cond.before_iff.mp (s0 5 _ rfl)
  obtain ⟨ca, ea⟩ := arr_v q2
  obtain ⟨cl, Ar⟩ := Arr.start ea q2
  have Sc := Sta.start ea (Or.inl q1)
  have hlen := eqv_i (Term.int_eval _) q4
  have h31 := own_len31 ea (Ar.fin (Vm.Alike.refl _)) hlen
  have Sz : cl.slots.size = 256 := by
    have e := (len_f ea (Ar.fin (Vm.Alike.refl _)) h31).symm.trans hlen
    have e2 := congrArg Int32.toInt (Value.int.inj (Option.some.inj e))
    rw [len_toInt h31] at e2
    have : (256 : Int32).toInt = 256 := by decide
    omega
  have Cc : ∀ j : Int32, ¬ (j < 0 ∨ 256 ≤ j.toNatClampNeg) → ∃ b : Addr, cl.slots[j.toNatClampNeg]? = some (.ref b) ∧ Exa s s.heap b "java/lang/Long" := fun j hj => by
    have nn : ¬ j < 0 := fun x => hj (Or.inl x)
    have lt : j.toNatClampNeg < cl.slots.size := by rw [Sz]; exact Nat.lt_of_not_le fun x => hj (Or.inr x)
    obtain ⟨u1, u2⟩ := and_e (Cond.all_elim ea (Ar.fin (Vm.Alike.refl _)) q5 j.toNatClampNeg lt)
    obtain ⟨box, eb⟩ := exa_v u1
    exact ⟨box, (elem_f (show (Jvm.Term.static "java/lang/Long$LongCache" "cache" "[Ljava/lang/Long;").eval _ s none [j.toNatClampNeg] s = some (.ref ca) from ea) (idx_at nn) (Ar.fin (Vm.Alike.refl _)) nn).symm.trans eb, exa_at eb u1⟩
  obtain ⟨n, o, h1, h2, h3, _, L, rfl, ⟨rfl, N⟩, hq⟩ := rm0 l s _ hw i0 i1 i2 ca cl s.heap s.heap.size (Nat.le_refl _) Sc Ar Sz Cc tables_1 p e ha hc hk s m _ below hf ((Spec.applies_iff_loose hf).mp happ).1 ⟨rfl, State.Warmed39.refl s, rfl⟩ trivial
  exact ⟨n, _, h1, h2, h3, hpost _ _ _ _ _ _ ⟨Cond.after_iff.mpr rfl, Cond.after_iff.mpr (eq_i res_at (Term.int_eval (1)) rfl)⟩ ⟨hq.1, hq.2.1, (hq.2.2.sift fun y hy => Or.inr (N y hy)).mono (by decide) (by decide)⟩⟩
theorem main_1_1 : Claimed_1_1 := comes_1 fun _ _ _ _ _ _ h hF => ⟨h.1, hF⟩
theorem main_1_2 : Claimed_1_2 := comes_1 fun _ _ _ _ _ _ h hF => ⟨h.2, hF⟩
end Jvm.Pilot.@@N@@
namespace Jvm.Pilot.@@N@@
open Jvm Jvm.ClassFile Sem Op Lib Jvm.Free Jvm.Stand Jvm.Pilot.@@N@@.Jvm.D
/-! MADE BY PROGRAM (witnessworld.py) out of the Statement's table words and the real class files: 18 classes; the members and pool entries that the words name. The judged class is class 1, her method 1. -/
namespace start1
open Jvm.ClassFile
def u (s : String) : CpInfo := .utf8 (stringToUtf16 s)
/-- a pool by its gaps: so many unusable entries, then the entry; so many at the end -/
def gap : Nat → List CpInfo → List CpInfo
  | 0, r => r
  | n + 1, r => .unusable :: gap n r
def poolList (es : List (Nat × CpInfo)) (last : Nat) : List CpInfo := es.foldr (fun e r => gap e.1 (e.2 :: r)) (gap last [])
def pool (es : List (Nat × CpInfo)) (last : Nat) : Array CpInfo := ⟨poolList es last⟩
def fileOf (pool : Array CpInfo) (this : Nat) (attrs : Array Attribute := #[]) (ms : Array MethodInfo := #[]) (fl : Nat := 33) (sup : Nat := 0) (ifs : Array Nat := #[]) (fds : Array FieldInfo := #[]) : ClassFile where
  minorVersion := 0
  majorVersion := 65
  constantPool := pool
  accessFlags := fl
  thisClass := this
  superClass := sup
  interfaces := ifs
  fields := fds
  methods := ms
  attributes := attrs
def plain (name : String) (sup : Option ClassId) : Class where
  name := name
  kind := .ordinary
  loader := none
  accessFlags := 33
  super := sup
  interfaces := #[]
  cf := none
  fields := #[]
  methods := #[]
  instanceTypes := #[]
  staticTypes := #[]
  resolved := #[]
  callSites := []
  init := .initialized
  statics := none
  mirror := none

def pool0 : Array CpInfo := pool [(5, u "<init>"), (0, u "()V"), (1, .class_ 10), (1, u "java/lang/Object")] 113

def k0c0 : Code := { maxStack := 0, maxLocals := 1, code := object_method_1_code, exceptionTable := #[], attributes := #[] }
def k0m0 : Method := { name := "<init>", desc := "()V", sig := { parameters := [], returnType := none }, accessFlags := 1, code := some k0c0 }
/-- java/lang/Object -/
def k0 : Class := { plain "java/lang/Object" none with
  accessFlags := 33
  interfaces := #[]
  cf := some (fileOf pool0 8 #[] #[{ accessFlags := 1, nameIndex := 5, descriptorIndex := 6, attributes := #[] }] 33 0 #[] #[])
  fields := #[]
  methods := #[k0m0]
  instanceTypes := #[]
  staticTypes := #[]
  resolved := Array.replicate 124 none
  statics := none }

def pool1 : Array CpInfo := pool [(2, .class_ 4), (1, u "java/lang/Object"), (0, u "<init>"), (0, u "()V"), (0, .class_ 8), (0, u "com/example/hornstone/hornstone/rdf/BlankNode"), (0, .methodref 7 10), (0, .nameAndType 5 11), (0, u "(J)V"), (0, .methodref 13 14), (0, .class_ 15), (0, .nameAndType 16 17), (0, u "java/lang/Long"), (0, u "valueOf"), (0, u "(J)Ljava/lang/Long;"), (0, .methodref 7 19), (0, .nameAndType 20 21), (0, u "equals"), (0, u "(Ljava/lang/Object;)Z"), (0, .class_ 23), (0, u "com/example/hornstone/hornstone/rdf/BlankNodeEqualsPinLaw"), (2, u "law"), (0, u "(JJI)Z")] 3

def k1m0 : Method := { name := "<init>", desc := "()V", sig := { parameters := [], returnType := none }, accessFlags := 2, code := none }
def k1c1 : Code := { maxStack := 4, maxLocals := 16, code := code, exceptionTable := #[], attributes := #[] }
def k1m1 : Method := { name := "law", desc := "(JJI)Z", sig := { parameters := [.long, .long, .int], returnType := some .boolean }, accessFlags := 9, code := some k1c1 }
/-- com/example/hornstone/hornstone/rdf/BlankNodeEqualsPinLaw -/
def k1 : Class := { plain "com/example/hornstone/hornstone/rdf/BlankNodeEqualsPinLaw" (some 0) with
  accessFlags := 49
  interfaces := #[]
  cf := some (fileOf pool1 22 #[] #[{ accessFlags := 2, nameIndex := 5, descriptorIndex := 6, attributes := #[] }, { accessFlags := 9, nameIndex := 26, descriptorIndex := 27, attributes := #[] }] 49 2 #[] #[])
  fields := #[]
  methods := #[k1m0, k1m1]
  instanceTypes := #[]
  staticTypes := #[]
  resolved := Array.replicate 31 none
  statics := none }

def pool2 : Array CpInfo := pool [(1, .methodref 2 3), (0, .class_ 4), (0, .nameAndType 5 6), (0, u "java/lang/Object"), (0, u "<init>"), (0, u "()V"), (0, .class_ 8), (0, u "java/lang/Record")] 13

def k2c0 : Code := { maxStack := 1, maxLocals := 1, code := jdk_30_method_1_code, exceptionTable := #[], attributes := #[] }
def k2m0 : Method := { name := "<init>", desc := "()V", sig := { parameters := [], returnType := none }, accessFlags := 4, code := some k2c0 }
/-- java/lang/Record -/
def k2 : Class := { plain "java/lang/Record" (some 0) with
  accessFlags := 1057
  interfaces := #[]
  cf := some (fileOf pool2 7 #[] #[{ accessFlags := 4, nameIndex := 5, descriptorIndex := 6, attributes := #[] }] 1057 2 #[] #[])
  fields := #[]
  methods := #[k2m0]
  instanceTypes := #[]
  staticTypes := #[]
  resolved := Array.replicate 22 none
  statics := none }

def pool3 : Array CpInfo := pool [(1, .class_ 2), (0, u "com/example/hornstone/hornstone/rdf/Term"), (0, .class_ 4), (0, u "java/lang/Object")] 9

/-- com/example/hornstone/hornstone/rdf/Term -/
def k3 : Class := { plain "com/example/hornstone/hornstone/rdf/Term" (some 0) with
  accessFlags := 1537
  interfaces := #[]
  cf := some (fileOf pool3 1 #[] #[] 1537 3 #[] #[])
  fields := #[]
  methods := #[]
  instanceTypes := #[]
  staticTypes := #[]
  resolved := Array.replicate 14 none
  statics := none }

def pool4 : Array CpInfo := pool [(1, .methodref 2 3), (0, .class_ 4), (0, .nameAndType 5 6), (0, u "java/lang/Record"), (0, u "<init>"), (0, u "()V"), (0, .fieldref 8 9), (0, .class_ 10), (0, .nameAndType 11 12), (0, u "com/example/hornstone/hornstone/rdf/BlankNode"), (0, u "id"), (0, u "J"), (10, .class_ 24), (0, u "com/example/hornstone/hornstone/rdf/Term"), (0, u "(J)V"), (3, u "equals"), (0, u "(Ljava/lang/Object;)Z")] 23

def k4c0 : Code := { maxStack := 3, maxLocals := 3, code := prog_81_method_1_code, exceptionTable := #[], attributes := #[] }
def k4m0 : Method := { name := "<init>", desc := "(J)V", sig := { parameters := [.long], returnType := none }, accessFlags := 1, code := some k4c0 }
def k4c1 : Code := { maxStack := 4, maxLocals := 3, code := prog_81_method_2_code, exceptionTable := #[], attributes := #[] }
def k4m1 : Method := { name := "equals", desc := "(Ljava/lang/Object;)Z", sig := { parameters := [(.object "java/lang/Object")], returnType := some .boolean }, accessFlags := 1, code := some k4c1 }
/-- com/example/hornstone/hornstone/rdf/BlankNode -/
def k4 : Class := { plain "com/example/hornstone/hornstone/rdf/BlankNode" (some 2) with
  accessFlags := 49
  interfaces := #[3]
  cf := some (fileOf pool4 8 #[] #[{ accessFlags := 1, nameIndex := 5, descriptorIndex := 25, attributes := #[] }, { accessFlags := 1, nameIndex := 29, descriptorIndex := 30, attributes := #[] }] 49 2 #[23] #[{ accessFlags := 18, nameIndex := 11, descriptorIndex := 12, attributes := #[] }])
  fields := #[{ name := "id", type := .long, accessFlags := 18, slot := 0, constantValue := 0 }]
  methods := #[k4m0, k4m1]
  instanceTypes := #[.long]
  staticTypes := #[]
  resolved := Array.replicate 54 none
  statics := none }

def pool5 : Array CpInfo := pool [(1, .class_ 2), (0, u "java/io/Serializable"), (0, .class_ 4), (0, u "java/lang/Object")] 2

/-- java/io/Serializable -/
def k5 : Class := { plain "java/io/Serializable" (some 0) with
  accessFlags := 1537
  interfaces := #[]
  cf := some (fileOf pool5 1 #[] #[] 1537 3 #[] #[])
  fields := #[]
  methods := #[]
  instanceTypes := #[]
  staticTypes := #[]
  resolved := Array.replicate 7 none
  statics := none }

def pool6 : Array CpInfo := pool [(1, .methodref 2 3), (0, .class_ 4), (0, .nameAndType 5 6), (0, u "java/lang/Object"), (0, u "<init>"), (0, u "()V"), (1, .class_ 10), (1, u "java/lang/Number"), (2, .class_ 14), (0, u "java/io/Serializable"), (0, u "serialVersionUID"), (0, u "J")] 20

def k6c0 : Code := { maxStack := 1, maxLocals := 1, code := jdk_18_method_1_code, exceptionTable := #[], attributes := #[] }
def k6m0 : Method := { name := "<init>", desc := "()V", sig := { parameters := [], returnType := none }, accessFlags := 1, code := some k6c0 }
/-- java/lang/Number -/
def k6 : Class := { plain "java/lang/Number" (some 0) with
  accessFlags := 1057
  interfaces := #[5]
  cf := some (fileOf pool6 8 #[] #[{ accessFlags := 1, nameIndex := 5, descriptorIndex := 6, attributes := #[] }] 1057 2 #[13] #[{ accessFlags := 26, nameIndex := 15, descriptorIndex := 16, attributes := #[] }])
  fields := #[{ name := "serialVersionUID", type := .long, accessFlags := 26, slot := 0, constantValue := 0 }]
  methods := #[k6m0]
  instanceTypes := #[]
  staticTypes := #[.long]
  resolved := Array.replicate 37 none
  statics := none }

def pool7 : Array CpInfo := pool [(1, .class_ 2), (0, u "java/lang/Comparable"), (0, .class_ 4), (0, u "java/lang/Object")] 7

/-- java/lang/Comparable -/
def k7 : Class := { plain "java/lang/Comparable" (some 0) with
  accessFlags := 1537
  interfaces := #[]
  cf := some (fileOf pool7 1 #[] #[] 1537 3 #[] #[])
  fields := #[]
  methods := #[]
  instanceTypes := #[]
  staticTypes := #[]
  resolved := Array.replicate 12 none
  statics := none }

def pool8 : Array CpInfo := pool [(1, .class_ 2), (0, u "java/lang/constant/Constable"), (0, .class_ 4), (0, u "java/lang/Object")] 6

/-- java/lang/constant/Constable -/
def k8 : Class := { plain "java/lang/constant/Constable" (some 0) with
  accessFlags := 1537
  interfaces := #[]
  cf := some (fileOf pool8 1 #[] #[] 1537 3 #[] #[])
  fields := #[]
  methods := #[]
  instanceTypes := #[]
  staticTypes := #[]
  resolved := Array.replicate 11 none
  statics := none }

def pool9 : Array CpInfo := pool [(1, .class_ 2), (0, u "java/lang/constant/ConstantDesc"), (0, .class_ 4), (0, u "java/lang/Object")] 32

/-- java/lang/constant/ConstantDesc -/
def k9 : Class := { plain "java/lang/constant/ConstantDesc" (some 0) with
  accessFlags := 1537
  interfaces := #[]
  cf := some (fileOf pool9 1 #[] #[] 1537 3 #[] #[])
  fields := #[]
  methods := #[]
  instanceTypes := #[]
  staticTypes := #[]
  resolved := Array.replicate 37 none
  statics := none }

def pool10 : Array CpInfo := pool [(1, .class_ 2), (0, u "java/lang/Long"), (55, .nameAndType 59 60), (0, u "<init>"), (0, u "()V"), (24, u "valueOf"), (143, u "(J)Ljava/lang/Long;"), (0, .long 18446744073709551488), (1, .long 127), (1, .fieldref 235 236), (0, .class_ 237), (0, .nameAndType 238 239), (0, u "java/lang/Long$LongCache"), (0, u "cache"), (0, u "[Ljava/lang/Long;"), (0, .methodref 1 241), (0, .nameAndType 59 242), (0, u "(J)V"), (27, .methodref 271 58), (0, .class_ 272), (0, u "java/lang/Number"), (0, .fieldref 1 274), (0, .nameAndType 275 276), (0, u "value"), (0, u "J"), (84, u "TYPE"), (0, u "Ljava/lang/Class;"), (0, .class_ 364), (0, u "java/lang/Comparable"), (0, .class_ 366), (0, u "java/lang/constant/Constable"), (0, .class_ 368), (0, u "java/lang/constant/ConstantDesc"), (0, u "MIN_VALUE"), (1, u "MAX_VALUE"), (4, u "SIZE"), (0, u "I"), (1, u "BYTES"), (1, u "serialVersionUID")] 142

def k10c0 : Code := { maxStack := 4, maxLocals := 3, code := jdk_35_method_24_code, exceptionTable := #[], attributes := #[] }
def k10m0 : Method := { name := "valueOf", desc := "(J)Ljava/lang/Long;", sig := { parameters := [.long], returnType := some (.object "java/lang/Long") }, accessFlags := 9, code := some k10c0 }
def k10c1 : Code := { maxStack := 3, maxLocals := 3, code := jdk_35_method_26_code, exceptionTable := #[], attributes := #[] }
def k10m1 : Method := { name := "<init>", desc := "(J)V", sig := { parameters := [.long], returnType := none }, accessFlags := 1, code := some k10c1 }
/-- java/lang/Long -/
def k10 : Class := { plain "java/lang/Long" (some 6) with
  accessFlags := 49
  interfaces := #[7, 8, 9]
  cf := some (fileOf pool10 1 #[.nestMembers #[235]] #[{ accessFlags := 9, nameIndex := 85, descriptorIndex := 229, attributes := #[] }, { accessFlags := 1, nameIndex := 59, descriptorIndex := 242, attributes := #[] }] 49 271 #[363, 365, 367] #[{ accessFlags := 25, nameIndex := 369, descriptorIndex := 276, attributes := #[] }, { accessFlags := 25, nameIndex := 371, descriptorIndex := 276, attributes := #[] }, { accessFlags := 25, nameIndex := 361, descriptorIndex := 362, attributes := #[] }, { accessFlags := 18, nameIndex := 275, descriptorIndex := 276, attributes := #[] }, { accessFlags := 25, nameIndex := 376, descriptorIndex := 377, attributes := #[] }, { accessFlags := 25, nameIndex := 379, descriptorIndex := 377, attributes := #[] }, { accessFlags := 26, nameIndex := 381, descriptorIndex := 276, attributes := #[] }])
  fields := #[{ name := "MIN_VALUE", type := .long, accessFlags := 25, slot := 0, constantValue := 0 }, { name := "MAX_VALUE", type := .long, accessFlags := 25, slot := 1, constantValue := 0 }, { name := "TYPE", type := (.object "java/lang/Class"), accessFlags := 25, slot := 2, constantValue := 0 }, { name := "value", type := .long, accessFlags := 18, slot := 0, constantValue := 0 }, { name := "SIZE", type := .int, accessFlags := 25, slot := 3, constantValue := 0 }, { name := "BYTES", type := .int, accessFlags := 25, slot := 4, constantValue := 0 }, { name := "serialVersionUID", type := .long, accessFlags := 26, slot := 5, constantValue := 0 }]
  methods := #[k10m0, k10m1]
  instanceTypes := #[.long]
  staticTypes := #[.long, .long, (.object "java/lang/Class"), .int, .int, .long]
  resolved := Array.replicate 524 none
  statics := none }

def pool11 : Array CpInfo := pool [(2, .class_ 4), (1, u "java/lang/Object"), (0, u "<init>"), (0, u "()V"), (0, .class_ 8), (0, u "java/lang/Long"), (7, .class_ 18), (1, u "java/lang/Long$LongCache"), (0, u "$assertionsDisabled"), (0, u "Z"), (8, u "archivedCache"), (0, u "[Ljava/lang/Long;"), (7, u "cache")] 24

def k11m0 : Method := { name := "<init>", desc := "()V", sig := { parameters := [], returnType := none }, accessFlags := 2, code := none }
/-- java/lang/Long$LongCache -/
def k11 : Class := { plain "java/lang/Long$LongCache" (some 0) with
  accessFlags := 48
  interfaces := #[]
  cf := some (fileOf pool11 16 #[.nestHost 7] #[{ accessFlags := 2, nameIndex := 5, descriptorIndex := 6, attributes := #[] }] 48 2 #[] #[{ accessFlags := 24, nameIndex := 38, descriptorIndex := 30, attributes := #[] }, { accessFlags := 8, nameIndex := 29, descriptorIndex := 30, attributes := #[] }, { accessFlags := 4120, nameIndex := 19, descriptorIndex := 20, attributes := #[] }])
  fields := #[{ name := "cache", type := (.array (.object "java/lang/Long")), accessFlags := 24, slot := 0, constantValue := 0 }, { name := "archivedCache", type := (.array (.object "java/lang/Long")), accessFlags := 8, slot := 1, constantValue := 0 }, { name := "$assertionsDisabled", type := .boolean, accessFlags := 4120, slot := 2, constantValue := 0 }]
  methods := #[k11m0]
  instanceTypes := #[]
  staticTypes := #[(.array (.object "java/lang/Long")), (.array (.object "java/lang/Long")), .boolean]
  resolved := Array.replicate 63 none
  statics := some 0 }

def pool12 : Array CpInfo := pool [(1, u "java/lang/Cloneable"), (0, .class_ 1), (0, u "java/lang/Object"), (0, .class_ 3)] 3

/-- java/lang/Cloneable -/
def k12 : Class := { plain "java/lang/Cloneable" (some 0) with
  accessFlags := 1537
  interfaces := #[]
  cf := some (fileOf pool12 2 #[] #[] 1537 4 #[] #[])
  fields := #[]
  methods := #[]
  instanceTypes := #[]
  staticTypes := #[]
  resolved := Array.replicate 8 none
  statics := none }

/-- the primitive byte -/
def k13 : Class := { plain "byte" none with kind := .primitive 'B', accessFlags := 0x411 }
/-- [B -/
def k14 : Class := { plain "[B" (some 0) with kind := .array 13 .byte, interfaces := #[12, 5], accessFlags := 1041 }

/-- the primitive int -/
def k15 : Class := { plain "int" none with kind := .primitive 'I', accessFlags := 0x411 }
/-- [I -/
def k16 : Class := { plain "[I" (some 0) with kind := .array 15 .int, interfaces := #[12, 5], accessFlags := 1041 }

/-- [Ljava/lang/Long; -/
def k17 : Class := { plain "[Ljava/lang/Long;" (some 0) with kind := .array 10 (.object "java/lang/Long"), interfaces := #[12, 5], accessFlags := 1041 }

def heap : Heap := #[{ cls := 11, slots := #[.ref 1, .null, .int 0], vm := .statics 11 },
  { cls := 17, slots := #[.ref 2, .ref 3, .ref 4, .ref 5, .ref 6, .ref 7, .ref 8, .ref 9, .ref 10, .ref 11, .ref 12, .ref 13, .ref 14, .ref 15, .ref 16, .ref 17, .ref 18, .ref 19, .ref 20, .ref 21, .ref 22, .ref 23, .ref 24, .ref 25, .ref 26, .ref 27, .ref 28, .ref 29, .ref 30, .ref 31, .ref 32, .ref 33, .ref 34, .ref 35, .ref 36, .ref 37, .ref 38, .ref 39, .ref 40, .ref 41, .ref 42, .ref 43, .ref 44, .ref 45, .ref 46, .ref 47, .ref 48, .ref 49, .ref 50, .ref 51, .ref 52, .ref 53, .ref 54, .ref 55, .ref 56, .ref 57, .ref 58, .ref 59, .ref 60, .ref 61, .ref 62, .ref 63, .ref 64, .ref 65, .ref 66, .ref 67, .ref 68, .ref 69, .ref 70, .ref 71, .ref 72, .ref 73, .ref 74, .ref 75, .ref 76, .ref 77, .ref 78, .ref 79, .ref 80, .ref 81, .ref 82, .ref 83, .ref 84, .ref 85, .ref 86, .ref 87, .ref 88, .ref 89, .ref 90, .ref 91, .ref 92, .ref 93, .ref 94, .ref 95, .ref 96, .ref 97, .ref 98, .ref 99, .ref 100, .ref 101, .ref 102, .ref 103, .ref 104, .ref 105, .ref 106, .ref 107, .ref 108, .ref 109, .ref 110, .ref 111, .ref 112, .ref 113, .ref 114, .ref 115, .ref 116, .ref 117, .ref 118, .ref 119, .ref 120, .ref 121, .ref 122, .ref 123, .ref 124, .ref 125, .ref 126, .ref 127, .ref 128, .ref 129, .ref 130, .ref 131, .ref 132, .ref 133, .ref 134, .ref 135, .ref 136, .ref 137, .ref 138, .ref 139, .ref 140, .ref 141, .ref 142, .ref 143, .ref 144, .ref 145, .ref 146, .ref 147, .ref 148, .ref 149, .ref 150, .ref 151, .ref 152, .ref 153, .ref 154, .ref 155, .ref 156, .ref 157, .ref 158, .ref 159, .ref 160, .ref 161, .ref 162, .ref 163, .ref 164, .ref 165, .ref 166, .ref 167, .ref 168, .ref 169, .ref 170, .ref 171, .ref 172, .ref 173, .ref 174, .ref 175, .ref 176, .ref 177, .ref 178, .ref 179, .ref 180, .ref 181, .ref 182, .ref 183, .ref 184, .ref 185, .ref 186, .ref 187, .ref 188, .ref 189, .ref 190, .ref 191, .ref 192, .ref 193, .ref 194, .ref 195, .ref 196, .ref 197, .ref 198, .ref 199, .ref 200, .ref 201, .ref 202, .ref 203, .ref 204, .ref 205, .ref 206, .ref 207, .ref 208, .ref 209, .ref 210, .ref 211, .ref 212, .ref 213, .ref 214, .ref 215, .ref 216, .ref 217, .ref 218, .ref 219, .ref 220, .ref 221, .ref 222, .ref 223, .ref 224, .ref 225, .ref 226, .ref 227, .ref 228, .ref 229, .ref 230, .ref 231, .ref 232, .ref 233, .ref 234, .ref 235, .ref 236, .ref 237, .ref 238, .ref 239, .ref 240, .ref 241, .ref 242, .ref 243, .ref 244, .ref 245, .ref 246, .ref 247, .ref 248, .ref 249, .ref 250, .ref 251, .ref 252, .ref 253, .ref 254, .ref 255, .ref 256, .ref 257], vm := .none },
  { cls := 10, slots := #[.long (-128)], vm := .none },
  { cls := 10, slots := #[.long (-127)], vm := .none },
  { cls := 10, slots := #[.long (-126)], vm := .none },
  { cls := 10, slots := #[.long (-125)], vm := .none },
  { cls := 10, slots := #[.long (-124)], vm := .none },
  { cls := 10, slots := #[.long (-123)], vm := .none },
  { cls := 10, slots := #[.long (-122)], vm := .none },
  { cls := 10, slots := #[.long (-121)], vm := .none },
  { cls := 10, slots := #[.long (-120)], vm := .none },
  { cls := 10, slots := #[.long (-119)], vm := .none },
  { cls := 10, slots := #[.long (-118)], vm := .none },
  { cls := 10, slots := #[.long (-117)], vm := .none },
  { cls := 10, slots := #[.long (-116)], vm := .none },
  { cls := 10, slots := #[.long (-115)], vm := .none },
  { cls := 10, slots := #[.long (-114)], vm := .none },
  { cls := 10, slots := #[.long (-113)], vm := .none },
  { cls := 10, slots := #[.long (-112)], vm := .none },
  { cls := 10, slots := #[.long (-111)], vm := .none },
  { cls := 10, slots := #[.long (-110)], vm := .none },
  { cls := 10, slots := #[.long (-109)], vm := .none },
  { cls := 10, slots := #[.long (-108)], vm := .none },
  { cls := 10, slots := #[.long (-107)], vm := .none },
  { cls := 10, slots := #[.long (-106)], vm := .none },
  { cls := 10, slots := #[.long (-105)], vm := .none },
  { cls := 10, slots := #[.long (-104)], vm := .none },
  { cls := 10, slots := #[.long (-103)], vm := .none },
  { cls := 10, slots := #[.long (-102)], vm := .none },
  { cls := 10, slots := #[.long (-101)], vm := .none },
  { cls := 10, slots := #[.long (-100)], vm := .none },
  { cls := 10, slots := #[.long (-99)], vm := .none },
  { cls := 10, slots := #[.long (-98)], vm := .none },
  { cls := 10, slots := #[.long (-97)], vm := .none },
  { cls := 10, slots := #[.long (-96)], vm := .none },
  { cls := 10, slots := #[.long (-95)], vm := .none },
  { cls := 10, slots := #[.long (-94)], vm := .none },
  { cls := 10, slots := #[.long (-93)], vm := .none },
  { cls := 10, slots := #[.long (-92)], vm := .none },
  { cls := 10, slots := #[.long (-91)], vm := .none },
  { cls := 10, slots := #[.long (-90)], vm := .none },
  { cls := 10, slots := #[.long (-89)], vm := .none },
  { cls := 10, slots := #[.long (-88)], vm := .none },
  { cls := 10, slots := #[.long (-87)], vm := .none },
  { cls := 10, slots := #[.long (-86)], vm := .none },
  { cls := 10, slots := #[.long (-85)], vm := .none },
  { cls := 10, slots := #[.long (-84)], vm := .none },
  { cls := 10, slots := #[.long (-83)], vm := .none },
  { cls := 10, slots := #[.long (-82)], vm := .none },
  { cls := 10, slots := #[.long (-81)], vm := .none },
  { cls := 10, slots := #[.long (-80)], vm := .none },
  { cls := 10, slots := #[.long (-79)], vm := .none },
  { cls := 10, slots := #[.long (-78)], vm := .none },
  { cls := 10, slots := #[.long (-77)], vm := .none },
  { cls := 10, slots := #[.long (-76)], vm := .none },
  { cls := 10, slots := #[.long (-75)], vm := .none },
  { cls := 10, slots := #[.long (-74)], vm := .none },
  { cls := 10, slots := #[.long (-73)], vm := .none },
  { cls := 10, slots := #[.long (-72)], vm := .none },
  { cls := 10, slots := #[.long (-71)], vm := .none },
  { cls := 10, slots := #[.long (-70)], vm := .none },
  { cls := 10, slots := #[.long (-69)], vm := .none },
  { cls := 10, slots := #[.long (-68)], vm := .none },
  { cls := 10, slots := #[.long (-67)], vm := .none },
  { cls := 10, slots := #[.long (-66)], vm := .none },
  { cls := 10, slots := #[.long (-65)], vm := .none },
  { cls := 10, slots := #[.long (-64)], vm := .none },
  { cls := 10, slots := #[.long (-63)], vm := .none },
  { cls := 10, slots := #[.long (-62)], vm := .none },
  { cls := 10, slots := #[.long (-61)], vm := .none },
  { cls := 10, slots := #[.long (-60)], vm := .none },
  { cls := 10, slots := #[.long (-59)], vm := .none },
  { cls := 10, slots := #[.long (-58)], vm := .none },
  { cls := 10, slots := #[.long (-57)], vm := .none },
  { cls := 10, slots := #[.long (-56)], vm := .none },
  { cls := 10, slots := #[.long (-55)], vm := .none },
  { cls := 10, slots := #[.long (-54)], vm := .none },
  { cls := 10, slots := #[.long (-53)], vm := .none },
  { cls := 10, slots := #[.long (-52)], vm := .none },
  { cls := 10, slots := #[.long (-51)], vm := .none },
  { cls := 10, slots := #[.long (-50)], vm := .none },
  { cls := 10, slots := #[.long (-49)], vm := .none },
  { cls := 10, slots := #[.long (-48)], vm := .none },
  { cls := 10, slots := #[.long (-47)], vm := .none },
  { cls := 10, slots := #[.long (-46)], vm := .none },
  { cls := 10, slots := #[.long (-45)], vm := .none },
  { cls := 10, slots := #[.long (-44)], vm := .none },
  { cls := 10, slots := #[.long (-43)], vm := .none },
  { cls := 10, slots := #[.long (-42)], vm := .none },
  { cls := 10, slots := #[.long (-41)], vm := .none },
  { cls := 10, slots := #[.long (-40)], vm := .none },
  { cls := 10, slots := #[.long (-39)], vm := .none },
  { cls := 10, slots := #[.long (-38)], vm := .none },
  { cls := 10, slots := #[.long (-37)], vm := .none },
  { cls := 10, slots := #[.long (-36)], vm := .none },
  { cls := 10, slots := #[.long (-35)], vm := .none },
  { cls := 10, slots := #[.long (-34)], vm := .none },
  { cls := 10, slots := #[.long (-33)], vm := .none },
  { cls := 10, slots := #[.long (-32)], vm := .none },
  { cls := 10, slots := #[.long (-31)], vm := .none },
  { cls := 10, slots := #[.long (-30)], vm := .none },
  { cls := 10, slots := #[.long (-29)], vm := .none },
  { cls := 10, slots := #[.long (-28)], vm := .none },
  { cls := 10, slots := #[.long (-27)], vm := .none },
  { cls := 10, slots := #[.long (-26)], vm := .none },
  { cls := 10, slots := #[.long (-25)], vm := .none },
  { cls := 10, slots := #[.long (-24)], vm := .none },
  { cls := 10, slots := #[.long (-23)], vm := .none },
  { cls := 10, slots := #[.long (-22)], vm := .none },
  { cls := 10, slots := #[.long (-21)], vm := .none },
  { cls := 10, slots := #[.long (-20)], vm := .none },
  { cls := 10, slots := #[.long (-19)], vm := .none },
  { cls := 10, slots := #[.long (-18)], vm := .none },
  { cls := 10, slots := #[.long (-17)], vm := .none },
  { cls := 10, slots := #[.long (-16)], vm := .none },
  { cls := 10, slots := #[.long (-15)], vm := .none },
  { cls := 10, slots := #[.long (-14)], vm := .none },
  { cls := 10, slots := #[.long (-13)], vm := .none },
  { cls := 10, slots := #[.long (-12)], vm := .none },
  { cls := 10, slots := #[.long (-11)], vm := .none },
  { cls := 10, slots := #[.long (-10)], vm := .none },
  { cls := 10, slots := #[.long (-9)], vm := .none },
  { cls := 10, slots := #[.long (-8)], vm := .none },
  { cls := 10, slots := #[.long (-7)], vm := .none },
  { cls := 10, slots := #[.long (-6)], vm := .none },
  { cls := 10, slots := #[.long (-5)], vm := .none },
  { cls := 10, slots := #[.long (-4)], vm := .none },
  { cls := 10, slots := #[.long (-3)], vm := .none },
  { cls := 10, slots := #[.long (-2)], vm := .none },
  { cls := 10, slots := #[.long (-1)], vm := .none },
  { cls := 10, slots := #[.long (0)], vm := .none },
  { cls := 10, slots := #[.long (1)], vm := .none },
  { cls := 10, slots := #[.long (2)], vm := .none },
  { cls := 10, slots := #[.long (3)], vm := .none },
  { cls := 10, slots := #[.long (4)], vm := .none },
  { cls := 10, slots := #[.long (5)], vm := .none },
  { cls := 10, slots := #[.long (6)], vm := .none },
  { cls := 10, slots := #[.long (7)], vm := .none },
  { cls := 10, slots := #[.long (8)], vm := .none },
  { cls := 10, slots := #[.long (9)], vm := .none },
  { cls := 10, slots := #[.long (10)], vm := .none },
  { cls := 10, slots := #[.long (11)], vm := .none },
  { cls := 10, slots := #[.long (12)], vm := .none },
  { cls := 10, slots := #[.long (13)], vm := .none },
  { cls := 10, slots := #[.long (14)], vm := .none },
  { cls := 10, slots := #[.long (15)], vm := .none },
  { cls := 10, slots := #[.long (16)], vm := .none },
  { cls := 10, slots := #[.long (17)], vm := .none },
  { cls := 10, slots := #[.long (18)], vm := .none },
  { cls := 10, slots := #[.long (19)], vm := .none },
  { cls := 10, slots := #[.long (20)], vm := .none },
  { cls := 10, slots := #[.long (21)], vm := .none },
  { cls := 10, slots := #[.long (22)], vm := .none },
  { cls := 10, slots := #[.long (23)], vm := .none },
  { cls := 10, slots := #[.long (24)], vm := .none },
  { cls := 10, slots := #[.long (25)], vm := .none },
  { cls := 10, slots := #[.long (26)], vm := .none },
  { cls := 10, slots := #[.long (27)], vm := .none },
  { cls := 10, slots := #[.long (28)], vm := .none },
  { cls := 10, slots := #[.long (29)], vm := .none },
  { cls := 10, slots := #[.long (30)], vm := .none },
  { cls := 10, slots := #[.long (31)], vm := .none },
  { cls := 10, slots := #[.long (32)], vm := .none },
  { cls := 10, slots := #[.long (33)], vm := .none },
  { cls := 10, slots := #[.long (34)], vm := .none },
  { cls := 10, slots := #[.long (35)], vm := .none },
  { cls := 10, slots := #[.long (36)], vm := .none },
  { cls := 10, slots := #[.long (37)], vm := .none },
  { cls := 10, slots := #[.long (38)], vm := .none },
  { cls := 10, slots := #[.long (39)], vm := .none },
  { cls := 10, slots := #[.long (40)], vm := .none },
  { cls := 10, slots := #[.long (41)], vm := .none },
  { cls := 10, slots := #[.long (42)], vm := .none },
  { cls := 10, slots := #[.long (43)], vm := .none },
  { cls := 10, slots := #[.long (44)], vm := .none },
  { cls := 10, slots := #[.long (45)], vm := .none },
  { cls := 10, slots := #[.long (46)], vm := .none },
  { cls := 10, slots := #[.long (47)], vm := .none },
  { cls := 10, slots := #[.long (48)], vm := .none },
  { cls := 10, slots := #[.long (49)], vm := .none },
  { cls := 10, slots := #[.long (50)], vm := .none },
  { cls := 10, slots := #[.long (51)], vm := .none },
  { cls := 10, slots := #[.long (52)], vm := .none },
  { cls := 10, slots := #[.long (53)], vm := .none },
  { cls := 10, slots := #[.long (54)], vm := .none },
  { cls := 10, slots := #[.long (55)], vm := .none },
  { cls := 10, slots := #[.long (56)], vm := .none },
  { cls := 10, slots := #[.long (57)], vm := .none },
  { cls := 10, slots := #[.long (58)], vm := .none },
  { cls := 10, slots := #[.long (59)], vm := .none },
  { cls := 10, slots := #[.long (60)], vm := .none },
  { cls := 10, slots := #[.long (61)], vm := .none },
  { cls := 10, slots := #[.long (62)], vm := .none },
  { cls := 10, slots := #[.long (63)], vm := .none },
  { cls := 10, slots := #[.long (64)], vm := .none },
  { cls := 10, slots := #[.long (65)], vm := .none },
  { cls := 10, slots := #[.long (66)], vm := .none },
  { cls := 10, slots := #[.long (67)], vm := .none },
  { cls := 10, slots := #[.long (68)], vm := .none },
  { cls := 10, slots := #[.long (69)], vm := .none },
  { cls := 10, slots := #[.long (70)], vm := .none },
  { cls := 10, slots := #[.long (71)], vm := .none },
  { cls := 10, slots := #[.long (72)], vm := .none },
  { cls := 10, slots := #[.long (73)], vm := .none },
  { cls := 10, slots := #[.long (74)], vm := .none },
  { cls := 10, slots := #[.long (75)], vm := .none },
  { cls := 10, slots := #[.long (76)], vm := .none },
  { cls := 10, slots := #[.long (77)], vm := .none },
  { cls := 10, slots := #[.long (78)], vm := .none },
  { cls := 10, slots := #[.long (79)], vm := .none },
  { cls := 10, slots := #[.long (80)], vm := .none },
  { cls := 10, slots := #[.long (81)], vm := .none },
  { cls := 10, slots := #[.long (82)], vm := .none },
  { cls := 10, slots := #[.long (83)], vm := .none },
  { cls := 10, slots := #[.long (84)], vm := .none },
  { cls := 10, slots := #[.long (85)], vm := .none },
  { cls := 10, slots := #[.long (86)], vm := .none },
  { cls := 10, slots := #[.long (87)], vm := .none },
  { cls := 10, slots := #[.long (88)], vm := .none },
  { cls := 10, slots := #[.long (89)], vm := .none },
  { cls := 10, slots := #[.long (90)], vm := .none },
  { cls := 10, slots := #[.long (91)], vm := .none },
  { cls := 10, slots := #[.long (92)], vm := .none },
  { cls := 10, slots := #[.long (93)], vm := .none },
  { cls := 10, slots := #[.long (94)], vm := .none },
  { cls := 10, slots := #[.long (95)], vm := .none },
  { cls := 10, slots := #[.long (96)], vm := .none },
  { cls := 10, slots := #[.long (97)], vm := .none },
  { cls := 10, slots := #[.long (98)], vm := .none },
  { cls := 10, slots := #[.long (99)], vm := .none },
  { cls := 10, slots := #[.long (100)], vm := .none },
  { cls := 10, slots := #[.long (101)], vm := .none },
  { cls := 10, slots := #[.long (102)], vm := .none },
  { cls := 10, slots := #[.long (103)], vm := .none },
  { cls := 10, slots := #[.long (104)], vm := .none },
  { cls := 10, slots := #[.long (105)], vm := .none },
  { cls := 10, slots := #[.long (106)], vm := .none },
  { cls := 10, slots := #[.long (107)], vm := .none },
  { cls := 10, slots := #[.long (108)], vm := .none },
  { cls := 10, slots := #[.long (109)], vm := .none },
  { cls := 10, slots := #[.long (110)], vm := .none },
  { cls := 10, slots := #[.long (111)], vm := .none },
  { cls := 10, slots := #[.long (112)], vm := .none },
  { cls := 10, slots := #[.long (113)], vm := .none },
  { cls := 10, slots := #[.long (114)], vm := .none },
  { cls := 10, slots := #[.long (115)], vm := .none },
  { cls := 10, slots := #[.long (116)], vm := .none },
  { cls := 10, slots := #[.long (117)], vm := .none },
  { cls := 10, slots := #[.long (118)], vm := .none },
  { cls := 10, slots := #[.long (119)], vm := .none },
  { cls := 10, slots := #[.long (120)], vm := .none },
  { cls := 10, slots := #[.long (121)], vm := .none },
  { cls := 10, slots := #[.long (122)], vm := .none },
  { cls := 10, slots := #[.long (123)], vm := .none },
  { cls := 10, slots := #[.long (124)], vm := .none },
  { cls := 10, slots := #[.long (125)], vm := .none },
  { cls := 10, slots := #[.long (126)], vm := .none },
  { cls := 10, slots := #[.long (127)], vm := .none }]
def classes : Array Class := #[k0, k1, k2, k3, k4, k5, k6, k7, k8, k9, k10, k11, k12, k13, k14, k15, k16, k17]
def interned : List (Array UInt16 × Addr) := []
def slotsUsed : Nat := 515
def theMethod : MethodId := ⟨1, 1⟩
def args0 : Array Value := #[.long 5, .long 3, .int 2]
def aboutOver (below : List Frame) : State where
  vm := { classes := classes, interned := interned.toArray }
  heap := heap
  slotsUsed := slotsUsed
  threads := #[{ frames := .invoking theMethod args0 :: below }]
def below0 : List Frame := [.native { method := ⟨0, 0⟩, args := #[] }]
def about1 : State := aboutOver below0
def p0 : Program := .bare "" "" ""
def e0 : Env := launch0.env 0 0 0
theorem w_frames : about1.frames = Frame.invoking theMethod args0 :: below0 := rfl
set_option maxRecDepth 65536 in
theorem w_args : argsFit about1.vm theMethod args0 = true := by decide +kernel
set_option maxRecDepth 65536 in
theorem w_heap : heapFits about1 = true := by decide +kernel
set_option maxRecDepth 65536 in
theorem w_runnable : about1.curStatus? = some .runnable := by decide +kernel
set_option maxRecDepth 65536 in
theorem w_alone : about1.alone = true := by decide +kernel
set_option maxRecDepth 65536 in
theorem w_named : about1.methodNamed? x = some theMethod := by decide +kernel
set_option maxRecDepth 65536 in
theorem w_hears : about1.hears theMethod below0 = true := by decide +kernel
set_option maxRecDepth 65536 in
theorem w_ripe : about1.ripe theMethod args0 below0 = true := by decide +kernel
theorem w_running : about1.status = .running := rfl
set_option maxRecDepth 65536 in
theorem w_room : about1.hasRoom e0.platform room_1 = true :=
  launch0.hasRoom_least _ room_1 (by decide +kernel) (by decide +kernel) (by decide +kernel) (by decide +kernel) (by decide +kernel) (by decide +kernel)
theorem allAtoms_all (ts : List Jvm.Cond) (a : Array Jvm.Value) (st : Jvm.State) : (allAtoms ts).before a st = ts.all (fun c => c.before a st) := by
  induction ts with
  | nil => rfl
  | cons c t ih =>
    show (Jvm.Cond.and c (allAtoms t)).before a st = _
    rw [Jvm.Cond.before_and, ih, List.all_cons]
def words1 : List Jvm.Cond := Jvm.Cond.code x code maxLocals ret :: tables_1
/-- a 'code' word, met by the world's own term for the bytes: nothing is compared byte by byte -/
theorem code_word {y : MethodName} {bytes : ByteArray} {mx : Nat} {rt : Option FieldType} {a : Array Value} {s : State} {m : MethodId} {meth : Method} {c : Code} (h1 : s.methodNamed? y = some m) (h2 : s.vm.method? m = some meth) (h3 : meth.code = some c) (h4 : c.code = bytes)
    (h5 : (c.maxLocals == mx && c.exceptionTable.isEmpty && decide (c.maxStack ≤ mostOperands) && decide (meth.sig.returnType = rt) && !meth.locks && decide (parseMethodDescriptor y.desc = some meth.sig)) = true) : (Jvm.Cond.code y bytes mx rt).before a s = true := by
  simp only [Bool.and_eq_true, beq_iff_eq, Bool.not_eq_true', decide_eq_true_eq] at h5
  obtain ⟨⟨⟨⟨⟨g1, g2⟩, g3⟩, g4⟩, g5⟩, g6⟩ := h5
  simp [Cond.before, Cond.holds, Cond.value, h1, h2, h3, h4, g1, g2, g3, g4, g5, g6]
def isCode : Jvm.Cond → Bool
  | .code _ _ _ _ => true
  | _ => false
theorem all_split {L : List Jvm.Cond} {P : Jvm.Cond → Bool} (h1 : L.all (fun c => isCode c || P c) = true) (h2 : ∀ c ∈ L.filter isCode, P c = true) : L.all P = true := by
  refine List.all_eq_true.mpr fun c hc => ?_
  have h := List.all_eq_true.mp h1 c hc
  rcases Bool.eq_false_or_eq_true (isCode c) with hi | hi
  · exact h2 c (List.mem_filter.mpr ⟨hc, hi⟩)
  · simpa [hi] using h
set_option maxRecDepth 65536 in
theorem w_c0 : (Jvm.Cond.code x code maxLocals ret).before args0 about1 = true := code_word (m := ⟨1, 1⟩) (meth := k1m1) (c := k1c1) (by decide +kernel) rfl rfl rfl (by decide +kernel)
set_option maxRecDepth 65536 in
theorem w_c1 : (Jvm.Cond.code ({ cls := "com/example/hornstone/hornstone/rdf/BlankNode", name := "<init>", desc := "(J)V" } : Jvm.MethodName) prog_81_method_1_code (3 : Nat) (Option.none : Option Jvm.ClassFile.FieldType)).before args0 about1 = true := code_word (m := ⟨4, 0⟩) (meth := k4m0) (c := k4c0) (by decide +kernel) rfl rfl rfl (by decide +kernel)
set_option maxRecDepth 65536 in
theorem w_c2 : (Jvm.Cond.code ({ cls := "java/lang/Record", name := "<init>", desc := "()V" } : Jvm.MethodName) jdk_30_method_1_code (1 : Nat) (Option.none : Option Jvm.ClassFile.FieldType)).before args0 about1 = true := code_word (m := ⟨2, 0⟩) (meth := k2m0) (c := k2c0) (by decide +kernel) rfl rfl rfl (by decide +kernel)
set_option maxRecDepth 65536 in
theorem w_c3 : (Jvm.Cond.code ({ cls := "java/lang/Object", name := "<init>", desc := "()V" } : Jvm.MethodName) object_method_1_code (1 : Nat) (Option.none : Option Jvm.ClassFile.FieldType)).before args0 about1 = true := code_word (m := ⟨0, 0⟩) (meth := k0m0) (c := k0c0) (by decide +kernel) rfl rfl rfl (by decide +kernel)
set_option maxRecDepth 65536 in
theorem w_c4 : (Jvm.Cond.code ({ cls := "java/lang/Long", name := "valueOf", desc := "(J)Ljava/lang/Long;" } : Jvm.MethodName) jdk_35_method_24_code (3 : Nat) (Option.some (Jvm.ClassFile.FieldType.object "java/lang/Long"))).before args0 about1 = true := code_word (m := ⟨10, 0⟩) (meth := k10m0) (c := k10c0) (by decide +kernel) rfl rfl rfl (by decide +kernel)
set_option maxRecDepth 65536 in
theorem w_c5 : (Jvm.Cond.code ({ cls := "com/example/hornstone/hornstone/rdf/BlankNode", name := "equals", desc := "(Ljava/lang/Object;)Z" } : Jvm.MethodName) prog_81_method_2_code (3 : Nat) (Option.some Jvm.ClassFile.FieldType.boolean)).before args0 about1 = true := code_word (m := ⟨4, 1⟩) (meth := k4m1) (c := k4c1) (by decide +kernel) rfl rfl rfl (by decide +kernel)
set_option maxRecDepth 65536 in
theorem w_c6 : (Jvm.Cond.code ({ cls := "java/lang/Long", name := "<init>", desc := "(J)V" } : Jvm.MethodName) jdk_35_method_26_code (3 : Nat) (Option.none : Option Jvm.ClassFile.FieldType)).before args0 about1 = true := code_word (m := ⟨10, 1⟩) (meth := k10m1) (c := k10c1) (by decide +kernel) rfl rfl rfl (by decide +kernel)
set_option maxRecDepth 65536 in
theorem w_c7 : (Jvm.Cond.code ({ cls := "java/lang/Number", name := "<init>", desc := "()V" } : Jvm.MethodName) jdk_18_method_1_code (1 : Nat) (Option.none : Option Jvm.ClassFile.FieldType)).before args0 about1 = true := code_word (m := ⟨6, 0⟩) (meth := k6m0) (c := k6c0) (by decide +kernel) rfl rfl rfl (by decide +kernel)
def codes1 : List Jvm.Cond := [Jvm.Cond.code x code maxLocals ret, Jvm.Cond.code ({ cls := "com/example/hornstone/hornstone/rdf/BlankNode", name := "<init>", desc := "(J)V" } : Jvm.MethodName) prog_81_method_1_code (3 : Nat) (Option.none : Option Jvm.ClassFile.FieldType), Jvm.Cond.code ({ cls := "java/lang/Record", name := "<init>", desc := "()V" } : Jvm.MethodName) jdk_30_method_1_code (1 : Nat) (Option.none : Option Jvm.ClassFile.FieldType), Jvm.Cond.code ({ cls := "java/lang/Object", name := "<init>", desc := "()V" } : Jvm.MethodName) object_method_1_code (1 : Nat) (Option.none : Option Jvm.ClassFile.FieldType), Jvm.Cond.code ({ cls := "java/lang/Long", name := "valueOf", desc := "(J)Ljava/lang/Long;" } : Jvm.MethodName) jdk_35_method_24_code (3 : Nat) (Option.some (Jvm.ClassFile.FieldType.object "java/lang/Long")), Jvm.Cond.code ({ cls := "com/example/hornstone/hornstone/rdf/BlankNode", name := "equals", desc := "(Ljava/lang/Object;)Z" } : Jvm.MethodName) prog_81_method_2_code (3 : Nat) (Option.some Jvm.ClassFile.FieldType.boolean), Jvm.Cond.code ({ cls := "java/lang/Long", name := "<init>", desc := "(J)V" } : Jvm.MethodName) jdk_35_method_26_code (3 : Nat) (Option.none : Option Jvm.ClassFile.FieldType), Jvm.Cond.code ({ cls := "java/lang/Number", name := "<init>", desc := "()V" } : Jvm.MethodName) jdk_18_method_1_code (1 : Nat) (Option.none : Option Jvm.ClassFile.FieldType)]
set_option maxRecDepth 65536 in
theorem codes_eq : words1.filter isCode = codes1 := rfl
theorem w_codes : ∀ c ∈ words1.filter isCode, c.before args0 about1 = true := by
  rw [codes_eq]
  intro c hc
  simp only [codes1, List.mem_cons, List.not_mem_nil, or_false] at hc
  rcases hc with rfl | rfl | rfl | rfl | rfl | rfl | rfl | rfl
  · exact w_c0
  · exact w_c1
  · exact w_c2
  · exact w_c3
  · exact w_c4
  · exact w_c5
  · exact w_c6
  · exact w_c7
set_option maxRecDepth 65536 in
theorem w_t1 : (words1.take 24).all (fun c => isCode c || c.before args0 about1) = true := by decide +kernel
set_option maxRecDepth 65536 in
theorem w_t2 : ((words1.drop 24).take 24).all (fun c => isCode c || c.before args0 about1) = true := by decide +kernel
set_option maxRecDepth 65536 in
theorem w_t3 : ((words1.drop 24).drop 24).all (fun c => isCode c || c.before args0 about1) = true := by decide +kernel
theorem w_tables : (allAtoms (Jvm.Cond.code x code maxLocals ret :: tables_1)).before args0 about1 = true := by
  rw [allAtoms_all]
  show words1.all (fun c => c.before args0 about1) = true
  refine all_split ?_ w_codes
  rw [← List.take_append_drop 24 words1, List.all_append, w_t1, ← List.take_append_drop 24 (words1.drop 24), List.all_append, w_t2, w_t3]
  rfl
set_option maxRecDepth 65536 in
theorem w_rest : rest_1_c.before args0 about1 = true := by decide +kernel
set_option maxRecDepth 65536 in
theorem w_case : (Jvm.Cond.and given_1 narrow_1).before args0 about1 = true := by decide +kernel
theorem w_applies : (headSpec (Jvm.Cond.code x code maxLocals ret :: tables_1) room_1).applies x e0.platform about1 = true :=
  (Spec.applies_iff w_frames).mpr ⟨w_running, w_runnable, w_alone, w_named, w_hears, w_ripe, w_room, w_tables⟩
theorem atStart : AtStart classFile x code maxLocals ret World_1 tables_1 room_1 Calls_1 rest_1 Pre_1 launch0 p0 e0 about1 theMethod args0 below0 :=
  ⟨lists_1, trivial, launch0.admits_env _ _ _, launch0.least_env, fairChoices_fair.cas, fairChoices_fair.clock, w_frames, w_args, w_heap, w_applies, trivial, w_rest, w_case⟩
end start1
theorem witness_1 : WitnessClaimed_1 := ⟨start1.p0, start1.e0, start1.about1, start1.theMethod, start1.args0, start1.below0, start1.atStart⟩
end Jvm.Pilot.@@N@@
