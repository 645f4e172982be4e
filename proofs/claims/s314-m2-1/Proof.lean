import JvmDerived
import JvmDerived.Pilot.@@N@@Statement
import JvmDerived.Pilot.@@N@@Code
set_option linter.unusedVariables false
set_option linter.unusedSimpArgs false
namespace Jvm.GoKit
open Sem ClassFile Op Lib Jvm.Stand Jvm.Free Jvm.LawKit Jvm.RoadKit
/-- what is fixed of one walk, but for the method's own figures -/
abbrev Cx : Type := Program × Launch × Env × State × MethodId × Array Value × List Frame × Method × Code
abbrev Cx.p (E : Cx) : Program := E.1
abbrev Cx.l (E : Cx) : Launch := E.2.1
abbrev Cx.e (E : Cx) : Env := E.2.2.1
abbrev Cx.s (E : Cx) : State := E.2.2.2.1
abbrev Cx.m (E : Cx) : MethodId := E.2.2.2.2.1
abbrev Cx.args (E : Cx) : Array Value := E.2.2.2.2.2.1
abbrev Cx.below (E : Cx) : List Frame := E.2.2.2.2.2.2.1
abbrev Cx.meth (E : Cx) : Method := E.2.2.2.2.2.2.2.1
abbrev Cx.c (E : Cx) : Code := E.2.2.2.2.2.2.2.2
/-- a method's own figures: its name, bytes, locals, return type, room -/
abbrev Mt : Type := MethodName × ByteArray × Nat × Option FieldType × Room
abbrev Mt.y (k : Mt) : MethodName := k.1
abbrev Mt.bytes (k : Mt) : ByteArray := k.2.1
abbrev Mt.maxL (k : Mt) : Nat := k.2.2.1
abbrev Mt.ret (k : Mt) : Option FieldType := k.2.2.2.1
abbrev Mt.rm (k : Mt) : Room := k.2.2.2.2
/-- the run from S ends, as G says -/
def Go (E : Cx) (G : State → Outcome → Prop) (S : State) : Prop := ∃ s₂ o, Steps E.p.tables E.e E.below S s₂ ∧ s₂.status = .running ∧ Ended s₂ E.below o ∧ G s₂ o
abbrev Fm (E : Cx) (T : State) (pc : Nat) (Ls : Array Slot) (st : List Value) : State := T.setTop (mkF E.m pc Ls st)
theorem nb {a b : Nat} (h : Nat.ble a b = true) : a ≤ b := Nat.le_of_ble_eq_true h
theorem Go.step {E : Cx} {G : State → Outcome → Prop} {S S' : State} (g : Go E G S') (k : ∀ t, Steps E.p.tables E.e E.below S' t → Steps E.p.tables E.e E.below S t) : Go E G S := by
  obtain ⟨s₂, o, h1, h2⟩ := g
  exact ⟨s₂, o, k _ h1, h2⟩
theorem Go.mono {E : Cx} {G G' : State → Outcome → Prop} {S : State} (g : Go E G S) (k : ∀ t o, G t o → G' t o) : Go E G' S := by
  obtain ⟨s₂, o, h1, h2, h3, h4⟩ := g
  exact ⟨s₂, o, h1, h2, h3, k _ _ h4⟩
/-- where a walk stands: its tables' start Z, the heap h, what it has made at the most; what it wrote lies at or above n0 -/
def On (k : Mt) (Z : State) (n0 : Nat) (E : Cx) (T : State) (h : Heap) (cells slots : Nat) : Prop :=
  (E.p.tables.exec = Jvm.exec ∧ E.c.code = k.bytes ∧ E.c.maxLocals = k.maxL ∧ E.s.vm.findClass k.y.cls = some E.m.cls ∧ E.meth.sig.returnType = k.ret ∧ E.meth.locks = false ∧ Z.Warmed39 E.s.vm ∧ E.meth.name = k.y.name ∧ E.s.methodNamed? k.y = some E.m) ∧ T.heap = h ∧
  ∃ locs cells' slots', cells' ≤ cells ∧ slots' ≤ slots ∧ Fr n0 locs ∧ Stand E.p E.l E.e k.rm E.s E.m E.args E.below E.meth E.c T locs cells' slots'
section
variable {k : Mt} {Z : State} {n0 : Nat} {E : Cx} {T : State} {h : Heap} {cells slots : Nat} {G : State → Outcome → Prop} {a0 : Array Value} {pc pc' : Nat} {Ls : Array Slot} {st : List Value}
theorem On.exec (W : On k Z n0 E T h cells slots) : E.p.tables.exec = Jvm.exec := W.1.1
theorem On.bytes (W : On k Z n0 E T h cells slots) : E.c.code = k.bytes := W.1.2.1
theorem On.maxL (W : On k Z n0 E T h cells slots) : E.c.maxLocals = k.maxL := W.1.2.2.1
theorem On.own (W : On k Z n0 E T h cells slots) : E.s.vm.findClass k.y.cls = some E.m.cls := W.1.2.2.2.1
theorem On.ret (W : On k Z n0 E T h cells slots) : E.meth.sig.returnType = k.ret := W.1.2.2.2.2.1
theorem On.locks (W : On k Z n0 E T h cells slots) : E.meth.locks = false := W.1.2.2.2.2.2.1
theorem On.hZ (W : On k Z n0 E T h cells slots) : Z.Warmed39 E.s.vm := W.1.2.2.2.2.2.2.1
theorem On.nm (W : On k Z n0 E T h cells slots) : E.meth.name = k.y.name := W.1.2.2.2.2.2.2.2.1
theorem On.named (W : On k Z n0 E T h cells slots) : E.s.methodNamed? k.y = some E.m := W.1.2.2.2.2.2.2.2.2
theorem On.heap (W : On k Z n0 E T h cells slots) : T.heap = h := W.2.1
theorem On.here (W : On k Z n0 E T h cells slots) : At T E.m E.c E.below := by obtain ⟨-, -, _, _, _, -, -, -, X⟩ := W; exact X.here
theorem On.mono {cells' slots' : Nat} (W : On k Z n0 E T h cells slots) (h1 : cells ≤ cells') (h2 : slots ≤ slots') : On k Z n0 E T h cells' slots' := by
  obtain ⟨q, e, L, a, b, ha, hb, r⟩ := W; exact ⟨q, e, L, a, b, Nat.le_trans ha h1, Nat.le_trans hb h2, r⟩
theorem On.sub {h' : Heap} (W : On k Z n0 E T h cells slots) (q : h = h') : On k Z n0 E T h' cells slots := q ▸ W
theorem On.heq {h' : Heap} (W : On k Z n0 E T h cells slots) (q : h' = h) : On k Z n0 E T h' cells slots := q.symm ▸ W
theorem go_iloadN (W : On k Z n0 E T h cells slots) {i : Fin 4} {v : Int32} (hd : decode k.bytes pc = .ok (.iload_n i, 1)) (hl : Ls[i.val]? = some (.val (.int v))) (hp : pc + 1 = pc') (g : Go E G (Fm E T pc' Ls (.int v :: st))) : Go E G (Fm E T pc Ls st) := by
  subst hp; exact g.step fun t r => XS.iloadN W.here W.exec rfl (hb W.bytes hd) hl r
theorem go_iload (W : On k Z n0 E T h cells slots) {i : Nat} {v : Int32} (hd : decode k.bytes pc = .ok (.iload i, 2)) (hl : Ls[i]? = some (.val (.int v))) (hp : pc + 2 = pc') (g : Go E G (Fm E T pc' Ls (.int v :: st))) : Go E G (Fm E T pc Ls st) := by
  subst hp; exact g.step fun t r => XS.iload W.here W.exec rfl (hb W.bytes hd) hl r
theorem go_istoreN (W : On k Z n0 E T h cells slots) {i : Fin 4} {v : Int32} {l' : Array Slot} (hd : decode k.bytes pc = .ok (.istore_n i, 1)) (hl : storeLocals Ls i.val (.int v) = some l') (hp : pc + 1 = pc') (g : Go E G (Fm E T pc' l' st)) : Go E G (Fm E T pc Ls (.int v :: st)) := by
  subst hp; exact g.step fun t r => XS.istoreN W.here W.exec rfl (hb W.bytes hd) rfl hl r
theorem go_istore (W : On k Z n0 E T h cells slots) {i : Nat} {v : Int32} {l' : Array Slot} (hd : decode k.bytes pc = .ok (.istore i, 2)) (hl : storeLocals Ls i (.int v) = some l') (hp : pc + 2 = pc') (g : Go E G (Fm E T pc' l' st)) : Go E G (Fm E T pc Ls (.int v :: st)) := by
  subst hp; exact g.step fun t r => XS.istore W.here W.exec rfl (hb W.bytes hd) rfl hl r
theorem go_lloadN (W : On k Z n0 E T h cells slots) {i : Fin 4} {v : Int64} (hd : decode k.bytes pc = .ok (.lload_n i, 1)) (hl : Ls[i.val]? = some (.val (.long v))) (hp : pc + 1 = pc') (g : Go E G (Fm E T pc' Ls (.long v :: st))) : Go E G (Fm E T pc Ls st) := by
  subst hp; exact g.step fun t r => XS.lloadN W.here W.exec rfl (hb W.bytes hd) hl r
theorem go_lload (W : On k Z n0 E T h cells slots) {i : Nat} {v : Int64} (hd : decode k.bytes pc = .ok (.lload i, 2)) (hl : Ls[i]? = some (.val (.long v))) (hp : pc + 2 = pc') (g : Go E G (Fm E T pc' Ls (.long v :: st))) : Go E G (Fm E T pc Ls st) := by
  subst hp; exact g.step fun t r => XS.lload W.here W.exec rfl (hb W.bytes hd) hl r
theorem go_lstoreN (W : On k Z n0 E T h cells slots) {i : Fin 4} {v : Int64} {l' : Array Slot} (hd : decode k.bytes pc = .ok (.lstore_n i, 1)) (hl : storeLocals Ls i.val (.long v) = some l') (hp : pc + 1 = pc') (g : Go E G (Fm E T pc' l' st)) : Go E G (Fm E T pc Ls (.long v :: st)) := by
  subst hp; exact g.step fun t r => XS.lstoreN W.here W.exec rfl (hb W.bytes hd) rfl hl r
theorem go_lstore (W : On k Z n0 E T h cells slots) {i : Nat} {v : Int64} {l' : Array Slot} (hd : decode k.bytes pc = .ok (.lstore i, 2)) (hl : storeLocals Ls i (.long v) = some l') (hp : pc + 2 = pc') (g : Go E G (Fm E T pc' l' st)) : Go E G (Fm E T pc Ls (.long v :: st)) := by
  subst hp; exact g.step fun t r => XS.lstore W.here W.exec rfl (hb W.bytes hd) rfl hl r
theorem go_aloadN (W : On k Z n0 E T h cells slots) {i : Fin 4} {v : Value} (hd : decode k.bytes pc = .ok (.aload_n i, 1)) (hl : Ls[i.val]? = some (.val v)) (hv : v.isRef = true) (hp : pc + 1 = pc') (g : Go E G (Fm E T pc' Ls (v :: st))) : Go E G (Fm E T pc Ls st) := by
  subst hp; exact g.step fun t r => XS.aloadN W.here W.exec rfl (hb W.bytes hd) hl hv r
theorem go_aload (W : On k Z n0 E T h cells slots) {i : Nat} {v : Value} (hd : decode k.bytes pc = .ok (.aload i, 2)) (hl : Ls[i]? = some (.val v)) (hv : v.isRef = true) (hp : pc + 2 = pc') (g : Go E G (Fm E T pc' Ls (v :: st))) : Go E G (Fm E T pc Ls st) := by
  subst hp; exact g.step fun t r => XS.aload W.here W.exec rfl (hb W.bytes hd) hl hv r
theorem go_astoreN (W : On k Z n0 E T h cells slots) {i : Fin 4} {v : Value} {l' : Array Slot} (hd : decode k.bytes pc = .ok (.astore_n i, 1)) (hv : v.isRef = true) (hl : storeLocals Ls i.val v = some l') (hp : pc + 1 = pc') (g : Go E G (Fm E T pc' l' st)) : Go E G (Fm E T pc Ls (v :: st)) := by
  subst hp; exact g.step fun t r => XS.astoreN W.here W.exec rfl (hb W.bytes hd) rfl hv hl r
theorem go_astore (W : On k Z n0 E T h cells slots) {i : Nat} {v : Value} {l' : Array Slot} (hd : decode k.bytes pc = .ok (.astore i, 2)) (hv : v.isRef = true) (hl : storeLocals Ls i v = some l') (hp : pc + 2 = pc') (g : Go E G (Fm E T pc' l' st)) : Go E G (Fm E T pc Ls (v :: st)) := by
  subst hp; exact g.step fun t r => XS.astore W.here W.exec rfl (hb W.bytes hd) rfl hv hl r
theorem go_iconst (W : On k Z n0 E T h cells slots) {i : Int} {z : Int32} (hd : decode k.bytes pc = .ok (.iconst i, 1)) (hz : Int32.ofInt i = z) (hp : pc + 1 = pc') (g : Go E G (Fm E T pc' Ls (.int z :: st))) : Go E G (Fm E T pc Ls st) := by
  subst hp; exact g.step fun t r => XS.iconst W.here W.exec rfl (hb W.bytes hd) (hz.symm ▸ r)
theorem go_bipush (W : On k Z n0 E T h cells slots) {i : Int} {z : Int32} (hd : decode k.bytes pc = .ok (.bipush i, 2)) (hz : (Int8.ofInt i).toInt32 = z) (hp : pc + 2 = pc') (g : Go E G (Fm E T pc' Ls (.int z :: st))) : Go E G (Fm E T pc Ls st) := by
  subst hp; exact g.step fun t r => XS.bipush W.here W.exec rfl (hb W.bytes hd) (hz.symm ▸ r)
theorem go_sipush (W : On k Z n0 E T h cells slots) {i : Int} {z : Int32} (hd : decode k.bytes pc = .ok (.sipush i, 3)) (hz : (Int16.ofInt i).toInt32 = z) (hp : pc + 3 = pc') (g : Go E G (Fm E T pc' Ls (.int z :: st))) : Go E G (Fm E T pc Ls st) := by
  subst hp; exact g.step fun t r => XS.sipush W.here W.exec rfl (hb W.bytes hd) (hz.symm ▸ r)
theorem go_lconst (W : On k Z n0 E T h cells slots) {i : Fin 2} {z : Int64} (hd : decode k.bytes pc = .ok (.lconst i, 1)) (hz : Int64.ofNat i = z) (hp : pc + 1 = pc') (g : Go E G (Fm E T pc' Ls (.long z :: st))) : Go E G (Fm E T pc Ls st) := by
  subst hp; exact g.step fun t r => XS.lconst W.here W.exec rfl (hb W.bytes hd) (hz.symm ▸ r)
theorem go_aconstNull (W : On k Z n0 E T h cells slots)  (hd : decode k.bytes pc = .ok (.aconst_null, 1))  (hp : pc + 1 = pc') (g : Go E G (Fm E T pc' Ls (.null :: st))) : Go E G (Fm E T pc Ls st) := by
  subst hp; exact g.step fun t r => XS.aconstNull W.here W.exec rfl (hb W.bytes hd) r
theorem go_iadd (W : On k Z n0 E T h cells slots) {x y : Int32} (hd : decode k.bytes pc = .ok (.iadd, 1))  (hp : pc + 1 = pc') (g : Go E G (Fm E T pc' Ls (.int (x + y) :: st))) : Go E G (Fm E T pc Ls (.int y :: .int x :: st)) := by
  subst hp; exact g.step fun t r => XS.iadd W.here W.exec rfl (hb W.bytes hd) rfl r
theorem go_ladd (W : On k Z n0 E T h cells slots) {x y : Int64} (hd : decode k.bytes pc = .ok (.ladd, 1))  (hp : pc + 1 = pc') (g : Go E G (Fm E T pc' Ls (.long (x + y) :: st))) : Go E G (Fm E T pc Ls (.long y :: .long x :: st)) := by
  subst hp; exact g.step fun t r => XS.ladd W.here W.exec rfl (hb W.bytes hd) rfl r
theorem go_isub (W : On k Z n0 E T h cells slots) {x y : Int32} (hd : decode k.bytes pc = .ok (.isub, 1))  (hp : pc + 1 = pc') (g : Go E G (Fm E T pc' Ls (.int (x - y) :: st))) : Go E G (Fm E T pc Ls (.int y :: .int x :: st)) := by
  subst hp; exact g.step fun t r => XS.isub W.here W.exec rfl (hb W.bytes hd) rfl r
theorem go_lsub (W : On k Z n0 E T h cells slots) {x y : Int64} (hd : decode k.bytes pc = .ok (.lsub, 1))  (hp : pc + 1 = pc') (g : Go E G (Fm E T pc' Ls (.long (x - y) :: st))) : Go E G (Fm E T pc Ls (.long y :: .long x :: st)) := by
  subst hp; exact g.step fun t r => XS.lsub W.here W.exec rfl (hb W.bytes hd) rfl r
theorem go_imul (W : On k Z n0 E T h cells slots) {x y : Int32} (hd : decode k.bytes pc = .ok (.imul, 1))  (hp : pc + 1 = pc') (g : Go E G (Fm E T pc' Ls (.int (x * y) :: st))) : Go E G (Fm E T pc Ls (.int y :: .int x :: st)) := by
  subst hp; exact g.step fun t r => XS.imul W.here W.exec rfl (hb W.bytes hd) rfl r
theorem go_lmul (W : On k Z n0 E T h cells slots) {x y : Int64} (hd : decode k.bytes pc = .ok (.lmul, 1))  (hp : pc + 1 = pc') (g : Go E G (Fm E T pc' Ls (.long (x * y) :: st))) : Go E G (Fm E T pc Ls (.long y :: .long x :: st)) := by
  subst hp; exact g.step fun t r => XS.lmul W.here W.exec rfl (hb W.bytes hd) rfl r
theorem go_iand (W : On k Z n0 E T h cells slots) {x y : Int32} (hd : decode k.bytes pc = .ok (.iand, 1))  (hp : pc + 1 = pc') (g : Go E G (Fm E T pc' Ls (.int (x &&& y) :: st))) : Go E G (Fm E T pc Ls (.int y :: .int x :: st)) := by
  subst hp; exact g.step fun t r => XS.iand W.here W.exec rfl (hb W.bytes hd) rfl r
theorem go_land (W : On k Z n0 E T h cells slots) {x y : Int64} (hd : decode k.bytes pc = .ok (.land, 1))  (hp : pc + 1 = pc') (g : Go E G (Fm E T pc' Ls (.long (x &&& y) :: st))) : Go E G (Fm E T pc Ls (.long y :: .long x :: st)) := by
  subst hp; exact g.step fun t r => XS.land W.here W.exec rfl (hb W.bytes hd) rfl r
theorem go_ior (W : On k Z n0 E T h cells slots) {x y : Int32} (hd : decode k.bytes pc = .ok (.ior, 1))  (hp : pc + 1 = pc') (g : Go E G (Fm E T pc' Ls (.int (x ||| y) :: st))) : Go E G (Fm E T pc Ls (.int y :: .int x :: st)) := by
  subst hp; exact g.step fun t r => XS.ior W.here W.exec rfl (hb W.bytes hd) rfl r
theorem go_lor (W : On k Z n0 E T h cells slots) {x y : Int64} (hd : decode k.bytes pc = .ok (.lor, 1))  (hp : pc + 1 = pc') (g : Go E G (Fm E T pc' Ls (.long (x ||| y) :: st))) : Go E G (Fm E T pc Ls (.long y :: .long x :: st)) := by
  subst hp; exact g.step fun t r => XS.lor W.here W.exec rfl (hb W.bytes hd) rfl r
theorem go_ixor (W : On k Z n0 E T h cells slots) {x y : Int32} (hd : decode k.bytes pc = .ok (.ixor, 1))  (hp : pc + 1 = pc') (g : Go E G (Fm E T pc' Ls (.int (x ^^^ y) :: st))) : Go E G (Fm E T pc Ls (.int y :: .int x :: st)) := by
  subst hp; exact g.step fun t r => XS.ixor W.here W.exec rfl (hb W.bytes hd) rfl r
theorem go_lxor (W : On k Z n0 E T h cells slots) {x y : Int64} (hd : decode k.bytes pc = .ok (.lxor, 1))  (hp : pc + 1 = pc') (g : Go E G (Fm E T pc' Ls (.long (x ^^^ y) :: st))) : Go E G (Fm E T pc Ls (.long y :: .long x :: st)) := by
  subst hp; exact g.step fun t r => XS.lxor W.here W.exec rfl (hb W.bytes hd) rfl r
theorem go_iaddZ (W : On k Z n0 E T h cells slots) {x y z : Int32} (hd : decode k.bytes pc = .ok (.iadd, 1)) (hz : x + y = z) (hp : pc + 1 = pc') (g : Go E G (Fm E T pc' Ls (.int z :: st))) : Go E G (Fm E T pc Ls (.int y :: .int x :: st)) := by
  subst hp; exact g.step fun t r => XS.iadd W.here W.exec rfl (hb W.bytes hd) rfl (hz.symm ▸ r)
theorem go_isubZ (W : On k Z n0 E T h cells slots) {x y z : Int32} (hd : decode k.bytes pc = .ok (.isub, 1)) (hz : x - y = z) (hp : pc + 1 = pc') (g : Go E G (Fm E T pc' Ls (.int z :: st))) : Go E G (Fm E T pc Ls (.int y :: .int x :: st)) := by
  subst hp; exact g.step fun t r => XS.isub W.here W.exec rfl (hb W.bytes hd) rfl (hz.symm ▸ r)
theorem go_imulZ (W : On k Z n0 E T h cells slots) {x y z : Int32} (hd : decode k.bytes pc = .ok (.imul, 1)) (hz : x * y = z) (hp : pc + 1 = pc') (g : Go E G (Fm E T pc' Ls (.int z :: st))) : Go E G (Fm E T pc Ls (.int y :: .int x :: st)) := by
  subst hp; exact g.step fun t r => XS.imul W.here W.exec rfl (hb W.bytes hd) rfl (hz.symm ▸ r)
theorem go_iandZ (W : On k Z n0 E T h cells slots) {x y z : Int32} (hd : decode k.bytes pc = .ok (.iand, 1)) (hz : x &&& y = z) (hp : pc + 1 = pc') (g : Go E G (Fm E T pc' Ls (.int z :: st))) : Go E G (Fm E T pc Ls (.int y :: .int x :: st)) := by
  subst hp; exact g.step fun t r => XS.iand W.here W.exec rfl (hb W.bytes hd) rfl (hz.symm ▸ r)
theorem go_iorZ (W : On k Z n0 E T h cells slots) {x y z : Int32} (hd : decode k.bytes pc = .ok (.ior, 1)) (hz : x ||| y = z) (hp : pc + 1 = pc') (g : Go E G (Fm E T pc' Ls (.int z :: st))) : Go E G (Fm E T pc Ls (.int y :: .int x :: st)) := by
  subst hp; exact g.step fun t r => XS.ior W.here W.exec rfl (hb W.bytes hd) rfl (hz.symm ▸ r)
theorem go_ixorZ (W : On k Z n0 E T h cells slots) {x y z : Int32} (hd : decode k.bytes pc = .ok (.ixor, 1)) (hz : x ^^^ y = z) (hp : pc + 1 = pc') (g : Go E G (Fm E T pc' Ls (.int z :: st))) : Go E G (Fm E T pc Ls (.int y :: .int x :: st)) := by
  subst hp; exact g.step fun t r => XS.ixor W.here W.exec rfl (hb W.bytes hd) rfl (hz.symm ▸ r)
theorem go_idiv (W : On k Z n0 E T h cells slots) {x y : Int32} (hd : decode k.bytes pc = .ok (.idiv, 1)) (hy : y ≠ 0) (hp : pc + 1 = pc') (g : Go E G (Fm E T pc' Ls (.int (x / y) :: st))) : Go E G (Fm E T pc Ls (.int y :: .int x :: st)) := by
  subst hp; exact g.step fun t r => XS.idiv W.here W.exec rfl (hb W.bytes hd) rfl hy r
theorem go_irem (W : On k Z n0 E T h cells slots) {x y : Int32} (hd : decode k.bytes pc = .ok (.irem, 1)) (hy : y ≠ 0) (hp : pc + 1 = pc') (g : Go E G (Fm E T pc' Ls (.int (x % y) :: st))) : Go E G (Fm E T pc Ls (.int y :: .int x :: st)) := by
  obtain ⟨C, hh, _, _, _, -, -, -, X⟩ := W
  subst hp; exact g.step fun t r => iremM X C.1 rfl (hb C.2.1 hd) rfl hy r
theorem go_ineg (W : On k Z n0 E T h cells slots) {x : Int32} (hd : decode k.bytes pc = .ok (.ineg, 1))  (hp : pc + 1 = pc') (g : Go E G (Fm E T pc' Ls (.int (-x) :: st))) : Go E G (Fm E T pc Ls (.int x :: st)) := by
  subst hp; exact g.step fun t r => XS.ineg W.here W.exec rfl (hb W.bytes hd) rfl r
theorem go_ishl (W : On k Z n0 E T h cells slots) {x y : Int32} (hd : decode k.bytes pc = .ok (.ishl, 1))  (hp : pc + 1 = pc') (g : Go E G (Fm E T pc' Ls (.int (x <<< (y &&& 31)) :: st))) : Go E G (Fm E T pc Ls (.int y :: .int x :: st)) := by
  subst hp; exact g.step fun t r => XS.ishl W.here W.exec rfl (hb W.bytes hd) rfl r
theorem go_ishr (W : On k Z n0 E T h cells slots) {x y : Int32} (hd : decode k.bytes pc = .ok (.ishr, 1))  (hp : pc + 1 = pc') (g : Go E G (Fm E T pc' Ls (.int (x >>> (y &&& 31)) :: st))) : Go E G (Fm E T pc Ls (.int y :: .int x :: st)) := by
  subst hp; exact g.step fun t r => XS.ishr W.here W.exec rfl (hb W.bytes hd) rfl r
theorem go_iushr (W : On k Z n0 E T h cells slots) {x y : Int32} (hd : decode k.bytes pc = .ok (.iushr, 1))  (hp : pc + 1 = pc') (g : Go E G (Fm E T pc' Ls (.int ((x.toUInt32 >>> (y &&& 31).toUInt32).toInt32) :: st))) : Go E G (Fm E T pc Ls (.int y :: .int x :: st)) := by
  subst hp; exact g.step fun t r => XS.iushr W.here W.exec rfl (hb W.bytes hd) rfl r
theorem go_lshl (W : On k Z n0 E T h cells slots) {x : Int64} {y : Int32} (hd : decode k.bytes pc = .ok (.lshl, 1))  (hp : pc + 1 = pc') (g : Go E G (Fm E T pc' Ls (.long (x <<< (y &&& 0x3f).toInt64) :: st))) : Go E G (Fm E T pc Ls (.int y :: .long x :: st)) := by
  subst hp; exact g.step fun t r => XS.lshl W.here W.exec rfl (hb W.bytes hd) rfl r
theorem go_lshr (W : On k Z n0 E T h cells slots) {x : Int64} {y : Int32} (hd : decode k.bytes pc = .ok (.lshr, 1))  (hp : pc + 1 = pc') (g : Go E G (Fm E T pc' Ls (.long (x >>> (y &&& 0x3f).toInt64) :: st))) : Go E G (Fm E T pc Ls (.int y :: .long x :: st)) := by
  subst hp; exact g.step fun t r => XS.lshr W.here W.exec rfl (hb W.bytes hd) rfl r
theorem go_lushr (W : On k Z n0 E T h cells slots) {x : Int64} {y : Int32} (hd : decode k.bytes pc = .ok (.lushr, 1))  (hp : pc + 1 = pc') (g : Go E G (Fm E T pc' Ls (.long ((x.toUInt64 >>> (y &&& 0x3f).toInt64.toUInt64).toInt64) :: st))) : Go E G (Fm E T pc Ls (.int y :: .long x :: st)) := by
  subst hp; exact g.step fun t r => XS.lushr W.here W.exec rfl (hb W.bytes hd) rfl r
theorem go_i2l (W : On k Z n0 E T h cells slots) {x : Int32} (hd : decode k.bytes pc = .ok (.i2l, 1))  (hp : pc + 1 = pc') (g : Go E G (Fm E T pc' Ls (.long (x.toInt64) :: st))) : Go E G (Fm E T pc Ls (.int x :: st)) := by
  subst hp; exact g.step fun t r => XS.i2l W.here W.exec rfl (hb W.bytes hd) rfl r
theorem go_l2i (W : On k Z n0 E T h cells slots) {x : Int64} (hd : decode k.bytes pc = .ok (.l2i, 1))  (hp : pc + 1 = pc') (g : Go E G (Fm E T pc' Ls (.int (x.toInt32) :: st))) : Go E G (Fm E T pc Ls (.long x :: st)) := by
  subst hp; exact g.step fun t r => XS.l2i W.here W.exec rfl (hb W.bytes hd) rfl r
theorem go_i2b (W : On k Z n0 E T h cells slots) {x : Int32} (hd : decode k.bytes pc = .ok (.i2b, 1))  (hp : pc + 1 = pc') (g : Go E G (Fm E T pc' Ls (.int (x.toInt8.toInt32) :: st))) : Go E G (Fm E T pc Ls (.int x :: st)) := by
  subst hp; exact g.step fun t r => XS.i2b W.here W.exec rfl (hb W.bytes hd) rfl r
theorem go_i2s (W : On k Z n0 E T h cells slots) {x : Int32} (hd : decode k.bytes pc = .ok (.i2s, 1))  (hp : pc + 1 = pc') (g : Go E G (Fm E T pc' Ls (.int (x.toInt16.toInt32) :: st))) : Go E G (Fm E T pc Ls (.int x :: st)) := by
  subst hp; exact g.step fun t r => XS.i2s W.here W.exec rfl (hb W.bytes hd) rfl r
theorem go_i2c (W : On k Z n0 E T h cells slots) {x : Int32} (hd : decode k.bytes pc = .ok (.i2c, 1))  (hp : pc + 1 = pc') (g : Go E G (Fm E T pc' Ls (.int (x.toUInt32.toUInt16.toUInt32.toInt32) :: st))) : Go E G (Fm E T pc Ls (.int x :: st)) := by
  subst hp; exact g.step fun t r => XS.i2c W.here W.exec rfl (hb W.bytes hd) rfl r
theorem go_lneg (W : On k Z n0 E T h cells slots) {x : Int64} (hd : decode k.bytes pc = .ok (.lneg, 1))  (hp : pc + 1 = pc') (g : Go E G (Fm E T pc' Ls (.long (-x) :: st))) : Go E G (Fm E T pc Ls (.long x :: st)) := by
  subst hp; exact g.step fun t r => XS.lneg W.here W.exec rfl (hb W.bytes hd) rfl r
theorem go_lcmp (W : On k Z n0 E T h cells slots) {x y : Int64} (hd : decode k.bytes pc = .ok (.lcmp, 1))  (hp : pc + 1 = pc') (g : Go E G (Fm E T pc' Ls (.int (lcmpW x y) :: st))) : Go E G (Fm E T pc Ls (.long y :: .long x :: st)) := by
  subst hp; exact g.step fun t r => XS.lcmp W.here W.exec rfl (hb W.bytes hd) rfl r
theorem go_dup (W : On k Z n0 E T h cells slots) {x : Value} (hd : decode k.bytes pc = .ok (.dup, 1)) (hc : x.category = 1) (hp : pc + 1 = pc') (g : Go E G (Fm E T pc' Ls (x :: x :: st))) : Go E G (Fm E T pc Ls (x :: st)) := by
  subst hp; exact g.step fun t r => XS.dup W.here W.exec rfl (hb W.bytes hd) rfl hc r
theorem go_pop (W : On k Z n0 E T h cells slots) {x : Value} (hd : decode k.bytes pc = .ok (.pop, 1)) (hc : x.category = 1) (hp : pc + 1 = pc') (g : Go E G (Fm E T pc' Ls st)) : Go E G (Fm E T pc Ls (x :: st)) := by
  subst hp; exact g.step fun t r => XS.pop W.here W.exec rfl (hb W.bytes hd) rfl hc r
theorem go_dupX1 (W : On k Z n0 E T h cells slots) {x y : Value} (hd : decode k.bytes pc = .ok (.dup_x1, 1)) (hc : x.category = 1) (hc' : y.category = 1) (hp : pc + 1 = pc') (g : Go E G (Fm E T pc' Ls (x :: y :: x :: st))) : Go E G (Fm E T pc Ls (x :: y :: st)) := by
  subst hp; exact g.step fun t r => XS.dupX1 W.here W.exec rfl (hb W.bytes hd) rfl hc hc' r
theorem go_dup2 (W : On k Z n0 E T h cells slots) {x y : Value} (hd : decode k.bytes pc = .ok (.dup2, 1)) (hc : x.category = 1) (hc' : y.category = 1) (hp : pc + 1 = pc') (g : Go E G (Fm E T pc' Ls (x :: y :: x :: y :: st))) : Go E G (Fm E T pc Ls (x :: y :: st)) := by
  subst hp; exact g.step fun t r => XT.dup2 W.here W.exec rfl (hb W.bytes hd) rfl hc hc' r
theorem go_iinc (W : On k Z n0 E T h cells slots) {i : Nat} {cst : Int} {x z : Int32} {l' : Array Slot} (hd : decode k.bytes pc = .ok (.iinc i cst, 3)) (hl : Ls[i]? = some (.val (.int x))) (hz : x + Int32.ofInt cst = z) (hl' : storeLocals Ls i (.int z) = some l') (hp : pc + 3 = pc') (g : Go E G (Fm E T pc' l' st)) : Go E G (Fm E T pc Ls st) := by
  subst hp; exact g.step fun t r => XS.iinc W.here W.exec rfl (hb W.bytes hd) hl (hz.symm ▸ hl') r
theorem go_dupX2 (W : On k Z n0 E T h cells slots) {x y z : Value} (hd : decode k.bytes pc = .ok (.dup_x2, 1)) (h1 : x.category = 1) (h2 : y.category = 1) (h3 : z.category = 1) (hp : pc + 1 = pc') (g : Go E G (Fm E T pc' Ls (x :: y :: z :: x :: st))) : Go E G (Fm E T pc Ls (x :: y :: z :: st)) := by
  subst hp
  refine g.step fun t r => ?_
  have q := W.here; have hx := W.exec; have hd' := hb W.bytes hd
  show Steps E.p.tables E.e E.below (T.setTop { method := E.m, pc := pc, locals := Ls, stack := x :: y :: z :: st, locked := none }) t
  jvm_step q [q.top, hx, hd', h1, h2, h3]
  exact r
theorem go_goto (W : On k Z n0 E T h cells slots) {o : Int} (hd : decode k.bytes pc = .ok (.goto o, 3)) (ho : 0 ≤ (pc : Int) + o) (hp : ((pc : Int) + o).toNat = pc') (g : Go E G (Fm E T pc' Ls st)) : Go E G (Fm E T pc Ls st) := by
  exact g.step fun t r => XS.goto W.here W.exec rfl rfl (hb W.bytes hd) ho hp r
theorem go_icmp_lt (W : On k Z n0 E T h cells slots) {x y : Int32} {o : Int} {pt pf : Nat} (hd : decode k.bytes pc = .ok (.if_icmp .lt o, 3)) (ho : 0 ≤ (pc : Int) + o) (hp : ((pc : Int) + o).toNat = pt) (hq : pc + 3 = pf) (g1 : x < y → Go E G (Fm E T pt Ls st)) (g2 : ¬ x < y → Go E G (Fm E T pf Ls st)) : Go E G (Fm E T pc Ls (.int y :: .int x :: st)) := by
  subst hq
  by_cases q : x < y
  · exact (g1 q).step fun t r => XS.icmpYes W.here W.exec rfl rfl (hb W.bytes hd) rfl (tlt q).1 ho hp r
  · exact (g2 q).step fun t r => XS.icmpNo W.here W.exec rfl (hb W.bytes hd) rfl (flt q).1 r
theorem go_if_lt (W : On k Z n0 E T h cells slots) {x : Int32} {o : Int} {pt pf : Nat} (hd : decode k.bytes pc = .ok (.ifCond .lt o, 3)) (ho : 0 ≤ (pc : Int) + o) (hp : ((pc : Int) + o).toNat = pt) (hq : pc + 3 = pf) (g1 : x < 0 → Go E G (Fm E T pt Ls st)) (g2 : ¬ x < 0 → Go E G (Fm E T pf Ls st)) : Go E G (Fm E T pc Ls (.int x :: st)) := by
  subst hq
  by_cases q : x < 0
  · exact (g1 q).step fun t r => XS.ifYes W.here W.exec rfl rfl (hb W.bytes hd) rfl ((if0 _ _).trans (tlt q).1) ho hp r
  · exact (g2 q).step fun t r => XS.ifNo W.here W.exec rfl (hb W.bytes hd) rfl ((if0 _ _).trans (flt q).1) r
theorem go_icmp_ge (W : On k Z n0 E T h cells slots) {x y : Int32} {o : Int} {pt pf : Nat} (hd : decode k.bytes pc = .ok (.if_icmp .ge o, 3)) (ho : 0 ≤ (pc : Int) + o) (hp : ((pc : Int) + o).toNat = pt) (hq : pc + 3 = pf) (g1 : ¬ x < y → Go E G (Fm E T pt Ls st)) (g2 : x < y → Go E G (Fm E T pf Ls st)) : Go E G (Fm E T pc Ls (.int y :: .int x :: st)) := by
  subst hq
  by_cases q : ¬ x < y
  · exact (g1 q).step fun t r => XS.icmpYes W.here W.exec rfl rfl (hb W.bytes hd) rfl (flt q).2.1 ho hp r
  · replace q := Decidable.not_not.mp q; exact (g2 q).step fun t r => XS.icmpNo W.here W.exec rfl (hb W.bytes hd) rfl (tlt q).2.1 r
theorem go_if_ge (W : On k Z n0 E T h cells slots) {x : Int32} {o : Int} {pt pf : Nat} (hd : decode k.bytes pc = .ok (.ifCond .ge o, 3)) (ho : 0 ≤ (pc : Int) + o) (hp : ((pc : Int) + o).toNat = pt) (hq : pc + 3 = pf) (g1 : ¬ x < 0 → Go E G (Fm E T pt Ls st)) (g2 : x < 0 → Go E G (Fm E T pf Ls st)) : Go E G (Fm E T pc Ls (.int x :: st)) := by
  subst hq
  by_cases q : ¬ x < 0
  · exact (g1 q).step fun t r => XS.ifYes W.here W.exec rfl rfl (hb W.bytes hd) rfl ((if0 _ _).trans (flt q).2.1) ho hp r
  · replace q := Decidable.not_not.mp q; exact (g2 q).step fun t r => XS.ifNo W.here W.exec rfl (hb W.bytes hd) rfl ((if0 _ _).trans (tlt q).2.1) r
theorem go_icmp_gt (W : On k Z n0 E T h cells slots) {x y : Int32} {o : Int} {pt pf : Nat} (hd : decode k.bytes pc = .ok (.if_icmp .gt o, 3)) (ho : 0 ≤ (pc : Int) + o) (hp : ((pc : Int) + o).toNat = pt) (hq : pc + 3 = pf) (g1 : y < x → Go E G (Fm E T pt Ls st)) (g2 : ¬ y < x → Go E G (Fm E T pf Ls st)) : Go E G (Fm E T pc Ls (.int y :: .int x :: st)) := by
  subst hq
  by_cases q : y < x
  · exact (g1 q).step fun t r => XS.icmpYes W.here W.exec rfl rfl (hb W.bytes hd) rfl (tlt q).2.2.1 ho hp r
  · exact (g2 q).step fun t r => XS.icmpNo W.here W.exec rfl (hb W.bytes hd) rfl (flt q).2.2.1 r
theorem go_if_gt (W : On k Z n0 E T h cells slots) {x : Int32} {o : Int} {pt pf : Nat} (hd : decode k.bytes pc = .ok (.ifCond .gt o, 3)) (ho : 0 ≤ (pc : Int) + o) (hp : ((pc : Int) + o).toNat = pt) (hq : pc + 3 = pf) (g1 : 0 < x → Go E G (Fm E T pt Ls st)) (g2 : ¬ 0 < x → Go E G (Fm E T pf Ls st)) : Go E G (Fm E T pc Ls (.int x :: st)) := by
  subst hq
  by_cases q : 0 < x
  · exact (g1 q).step fun t r => XS.ifYes W.here W.exec rfl rfl (hb W.bytes hd) rfl ((if0 _ _).trans (tlt q).2.2.1) ho hp r
  · exact (g2 q).step fun t r => XS.ifNo W.here W.exec rfl (hb W.bytes hd) rfl ((if0 _ _).trans (flt q).2.2.1) r
theorem go_icmp_le (W : On k Z n0 E T h cells slots) {x y : Int32} {o : Int} {pt pf : Nat} (hd : decode k.bytes pc = .ok (.if_icmp .le o, 3)) (ho : 0 ≤ (pc : Int) + o) (hp : ((pc : Int) + o).toNat = pt) (hq : pc + 3 = pf) (g1 : ¬ y < x → Go E G (Fm E T pt Ls st)) (g2 : y < x → Go E G (Fm E T pf Ls st)) : Go E G (Fm E T pc Ls (.int y :: .int x :: st)) := by
  subst hq
  by_cases q : ¬ y < x
  · exact (g1 q).step fun t r => XS.icmpYes W.here W.exec rfl rfl (hb W.bytes hd) rfl (flt q).2.2.2 ho hp r
  · replace q := Decidable.not_not.mp q; exact (g2 q).step fun t r => XS.icmpNo W.here W.exec rfl (hb W.bytes hd) rfl (tlt q).2.2.2 r
theorem go_if_le (W : On k Z n0 E T h cells slots) {x : Int32} {o : Int} {pt pf : Nat} (hd : decode k.bytes pc = .ok (.ifCond .le o, 3)) (ho : 0 ≤ (pc : Int) + o) (hp : ((pc : Int) + o).toNat = pt) (hq : pc + 3 = pf) (g1 : ¬ 0 < x → Go E G (Fm E T pt Ls st)) (g2 : 0 < x → Go E G (Fm E T pf Ls st)) : Go E G (Fm E T pc Ls (.int x :: st)) := by
  subst hq
  by_cases q : ¬ 0 < x
  · exact (g1 q).step fun t r => XS.ifYes W.here W.exec rfl rfl (hb W.bytes hd) rfl ((if0 _ _).trans (flt q).2.2.2) ho hp r
  · replace q := Decidable.not_not.mp q; exact (g2 q).step fun t r => XS.ifNo W.here W.exec rfl (hb W.bytes hd) rfl ((if0 _ _).trans (tlt q).2.2.2) r
theorem go_icmp_eq (W : On k Z n0 E T h cells slots) {x y : Int32} {o : Int} {pt pf : Nat} (hd : decode k.bytes pc = .ok (.if_icmp .eq o, 3)) (ho : 0 ≤ (pc : Int) + o) (hp : ((pc : Int) + o).toNat = pt) (hq : pc + 3 = pf) (g1 : x = y → Go E G (Fm E T pt Ls st)) (g2 : ¬ x = y → Go E G (Fm E T pf Ls st)) : Go E G (Fm E T pc Ls (.int y :: .int x :: st)) := by
  subst hq
  by_cases q : x = y
  · exact (g1 q).step fun t r => XS.icmpYes W.here W.exec rfl rfl (hb W.bytes hd) rfl (teq q).1 ho hp r
  · exact (g2 q).step fun t r => XS.icmpNo W.here W.exec rfl (hb W.bytes hd) rfl (feq q).1 r
theorem go_if_eq (W : On k Z n0 E T h cells slots) {x : Int32} {o : Int} {pt pf : Nat} (hd : decode k.bytes pc = .ok (.ifCond .eq o, 3)) (ho : 0 ≤ (pc : Int) + o) (hp : ((pc : Int) + o).toNat = pt) (hq : pc + 3 = pf) (g1 : x = 0 → Go E G (Fm E T pt Ls st)) (g2 : ¬ x = 0 → Go E G (Fm E T pf Ls st)) : Go E G (Fm E T pc Ls (.int x :: st)) := by
  subst hq
  by_cases q : x = 0
  · exact (g1 q).step fun t r => XS.ifYes W.here W.exec rfl rfl (hb W.bytes hd) rfl ((if0 _ _).trans (teq q).1) ho hp r
  · exact (g2 q).step fun t r => XS.ifNo W.here W.exec rfl (hb W.bytes hd) rfl ((if0 _ _).trans (feq q).1) r
theorem go_icmp_ne (W : On k Z n0 E T h cells slots) {x y : Int32} {o : Int} {pt pf : Nat} (hd : decode k.bytes pc = .ok (.if_icmp .ne o, 3)) (ho : 0 ≤ (pc : Int) + o) (hp : ((pc : Int) + o).toNat = pt) (hq : pc + 3 = pf) (g1 : ¬ x = y → Go E G (Fm E T pt Ls st)) (g2 : x = y → Go E G (Fm E T pf Ls st)) : Go E G (Fm E T pc Ls (.int y :: .int x :: st)) := by
  subst hq
  by_cases q : ¬ x = y
  · exact (g1 q).step fun t r => XS.icmpYes W.here W.exec rfl rfl (hb W.bytes hd) rfl (feq q).2 ho hp r
  · replace q := Decidable.not_not.mp q; exact (g2 q).step fun t r => XS.icmpNo W.here W.exec rfl (hb W.bytes hd) rfl (teq q).2 r
theorem go_if_ne (W : On k Z n0 E T h cells slots) {x : Int32} {o : Int} {pt pf : Nat} (hd : decode k.bytes pc = .ok (.ifCond .ne o, 3)) (ho : 0 ≤ (pc : Int) + o) (hp : ((pc : Int) + o).toNat = pt) (hq : pc + 3 = pf) (g1 : ¬ x = 0 → Go E G (Fm E T pt Ls st)) (g2 : x = 0 → Go E G (Fm E T pf Ls st)) : Go E G (Fm E T pc Ls (.int x :: st)) := by
  subst hq
  by_cases q : ¬ x = 0
  · exact (g1 q).step fun t r => XS.ifYes W.here W.exec rfl rfl (hb W.bytes hd) rfl ((if0 _ _).trans (feq q).2) ho hp r
  · replace q := Decidable.not_not.mp q; exact (g2 q).step fun t r => XS.ifNo W.here W.exec rfl (hb W.bytes hd) rfl ((if0 _ _).trans (teq q).2) r
theorem go_acmp_eq (W : On k Z n0 E T h cells slots) {x y : Value} {o : Int} {pt pf : Nat} (hd : decode k.bytes pc = .ok (.if_acmp .eq o, 3)) (h1 : x.isRef = true) (h2 : y.isRef = true) (ho : 0 ≤ (pc : Int) + o) (hp : ((pc : Int) + o).toNat = pt) (hq : pc + 3 = pf) (g1 : x = y → Go E G (Fm E T pt Ls st)) (g2 : ¬ x = y → Go E G (Fm E T pf Ls st)) : Go E G (Fm E T pc Ls (y :: x :: st)) := by
  obtain ⟨C, hh, _, _, _, -, -, -, X⟩ := W
  by_cases q : x = y
  · exact (g1 q).step fun t r => Jvm.RoadKit.acmp (g := mkF E.m pc Ls (y :: x :: st)) X C.1 rfl h1 h2 (pc0 := pc) (pc' := pt) (same := true) rfl (hb C.2.1 hd) rfl (decide_eq_true q) ho hp.symm r
  · exact (g2 q).step fun t r => Jvm.RoadKit.acmp (g := mkF E.m pc Ls (y :: x :: st)) X C.1 rfl h1 h2 (pc0 := pc) (pc' := pf) (same := false) rfl (hb C.2.1 hd) rfl (decide_eq_false q) ho hq.symm r
theorem go_acmp_ne (W : On k Z n0 E T h cells slots) {x y : Value} {o : Int} {pt pf : Nat} (hd : decode k.bytes pc = .ok (.if_acmp .ne o, 3)) (h1 : x.isRef = true) (h2 : y.isRef = true) (ho : 0 ≤ (pc : Int) + o) (hp : ((pc : Int) + o).toNat = pt) (hq : pc + 3 = pf) (g1 : ¬ x = y → Go E G (Fm E T pt Ls st)) (g2 : x = y → Go E G (Fm E T pf Ls st)) : Go E G (Fm E T pc Ls (y :: x :: st)) := by
  obtain ⟨C, hh, _, _, _, -, -, -, X⟩ := W
  by_cases q : x = y
  · exact (g2 q).step fun t r => Jvm.RoadKit.acmp (g := mkF E.m pc Ls (y :: x :: st)) X C.1 rfl h1 h2 (pc0 := pc) (pc' := pf) (same := true) rfl (hb C.2.1 hd) rfl (decide_eq_true q) ho hq.symm r
  · exact (g1 q).step fun t r => Jvm.RoadKit.acmp (g := mkF E.m pc Ls (y :: x :: st)) X C.1 rfl h1 h2 (pc0 := pc) (pc' := pt) (same := false) rfl (hb C.2.1 hd) rfl (decide_eq_false q) ho hp.symm r
theorem go_ifnull_null (W : On k Z n0 E T h cells slots) {o : Int} (hd : decode k.bytes pc = .ok (.ifnull o, 3)) (ho : 0 ≤ (pc : Int) + o) (hp : ((pc : Int) + o).toNat = pc') (g : Go E G (Fm E T pc' Ls st)) : Go E G (Fm E T pc Ls (.null :: st)) :=
  g.step fun t r => XS.ifnullYes W.here W.exec rfl rfl (hb W.bytes hd) rfl ho hp r
theorem go_ifnull_ref (W : On k Z n0 E T h cells slots) {o : Int} {b : Addr} (hd : decode k.bytes pc = .ok (.ifnull o, 3)) (hp : pc + 3 = pc') (g : Go E G (Fm E T pc' Ls st)) : Go E G (Fm E T pc Ls (.ref b :: st)) := by
  subst hp; exact g.step fun t r => XS.ifnullNo W.here W.exec rfl (hb W.bytes hd) rfl r
theorem go_ifnonnull_ref (W : On k Z n0 E T h cells slots) {o : Int} {b : Addr} (hd : decode k.bytes pc = .ok (.ifnonnull o, 3)) (ho : 0 ≤ (pc : Int) + o) (hp : ((pc : Int) + o).toNat = pc') (g : Go E G (Fm E T pc' Ls st)) : Go E G (Fm E T pc Ls (.ref b :: st)) :=
  g.step fun t r => XS.ifnonnullYes W.here W.exec rfl rfl (hb W.bytes hd) rfl ho hp r
theorem go_ifnonnull_null (W : On k Z n0 E T h cells slots) {o : Int} (hd : decode k.bytes pc = .ok (.ifnonnull o, 3)) (hp : pc + 3 = pc') (g : Go E G (Fm E T pc' Ls st)) : Go E G (Fm E T pc Ls (.null :: st)) := by
  subst hp; exact g.step fun t r => XS.ifnonnullNo W.here W.exec rfl (hb W.bytes hd) rfl r
theorem go_tswIn (W : On k Z n0 E T h cells slots) {dflt low high : Int} {offs : Array Int} {len : Nat} {o : Int} {i : Int32} (hd : decode k.bytes pc = .ok (.tableswitch dflt low high offs, len)) (hin : ¬ (i.toInt < low ∨ i.toInt > high)) (hoff : offs[(i.toInt - low).toNat]? = some o) (ho : 0 ≤ (pc : Int) + o) (hp : ((pc : Int) + o).toNat = pc') (g : Go E G (Fm E T pc' Ls st)) : Go E G (Fm E T pc Ls (.int i :: st)) :=
  g.step fun t r => XS.tswIn W.here W.exec rfl rfl (hb W.bytes hd) rfl hin hoff ho hp r
theorem go_tswOut (W : On k Z n0 E T h cells slots) {dflt low high : Int} {offs : Array Int} {len : Nat} {i : Int32} (hd : decode k.bytes pc = .ok (.tableswitch dflt low high offs, len)) (hout : i.toInt < low ∨ i.toInt > high) (ho : 0 ≤ (pc : Int) + dflt) (hp : ((pc : Int) + dflt).toNat = pc') (g : Go E G (Fm E T pc' Ls st)) : Go E G (Fm E T pc Ls (.int i :: st)) :=
  g.step fun t r => XS.tswOut W.here W.exec rfl rfl (hb W.bytes hd) rfl hout ho hp r
theorem go_ldcInt (W : On k Z n0 E T h cells slots) {index : Nat} {v : Int32} (w : (Cond.constant k.y.cls index v).before a0 Z = true) (hd : decode k.bytes pc = .ok (.ldc index, 2)) (hp : pc + 2 = pc') (g : Go E G (Fm E T pc' Ls (.int v :: st))) : Go E G (Fm E T pc Ls st) := by
  obtain ⟨C, hh, _, _, _, -, -, -, X⟩ := W
  subst hp; exact g.step fun t r => X.ldcInt C.1 C.2.2.2.1 (mvT C.2.2.2.2.2.2.1 w) (g := mkF E.m pc Ls st) rfl (hb C.2.1 hd) _ r
theorem go_ldcwInt (W : On k Z n0 E T h cells slots) {index : Nat} {v : Int32} (w : (Cond.constant k.y.cls index v).before a0 Z = true) (hd : decode k.bytes pc = .ok (.ldc_w index, 3)) (hp : pc + 3 = pc') (g : Go E G (Fm E T pc' Ls (.int v :: st))) : Go E G (Fm E T pc Ls st) := by
  obtain ⟨C, hh, _, _, _, -, -, -, X⟩ := W
  subst hp; exact g.step fun t r => X.ldcwInt C.1 C.2.2.2.1 (mvT C.2.2.2.2.2.2.1 w) (g := mkF E.m pc Ls st) rfl (hb C.2.1 hd) _ r
theorem go_ldc2Long (W : On k Z n0 E T h cells slots) {index : Nat} {v : Int64} (w : (Cond.constantLong k.y.cls index v).before a0 Z = true) (hd : decode k.bytes pc = .ok (.ldc2_w index, 3)) (hp : pc + 3 = pc') (g : Go E G (Fm E T pc' Ls (.long v :: st))) : Go E G (Fm E T pc Ls st) := by
  obtain ⟨C, hh, _, _, _, -, -, -, X⟩ := W
  subst hp; exact g.step fun t r => X.ldc2Long C.1 C.2.2.2.1 (mvT C.2.2.2.2.2.2.1 w) (g := mkF E.m pc Ls st) rfl (hb C.2.1 hd) _ r
/-! fields -/
theorem go_getF (W : On k Z n0 E T h cells slots) {R0 O n d host : String} {index : Nat} (w : (Cond.fieldLink k.y.cls index R0 n d).before a0 Z = true ∨ (Cond.fieldLinkNest k.y.cls index R0 n d host).before a0 Z = true) (via : Via Z R0 O n d) {a : Addr} {v : Value} (F : Fld Z h a O n d v)
    (hd : decode k.bytes pc = .ok (.getfield index, 3)) (hp : pc + 3 = pc') (g : ∀ T', On k Z n0 E T' h cells slots → Go E G (Fm E T' pc' Ls (v :: st))) : Go E G (Fm E T pc Ls (.ref a :: st)) := by
  obtain ⟨C, hh, L, a1, b1, ha, hb1, hF, X⟩ := W
  subst hp
  obtain ⟨T', X', e', st'⟩ := getF X C.1 C.2.2.2.2.2.2.1 C.2.2.2.1 w via hh F (g := mkF E.m pc Ls (.ref a :: st)) rfl rfl (hb C.2.1 hd)
  exact (g T' ⟨C, e', L, a1, b1, ha, hb1, hF, X'⟩).step st'
theorem go_getS (W : On k Z n0 E T h cells slots) {R0 O n d host : String} {index : Nat} (w : (Cond.fieldLink k.y.cls index R0 n d).before a0 Z = true ∨ (Cond.fieldLinkNest k.y.cls index R0 n d host).before a0 Z = true) (via : Via Z R0 O n d) {v : Value} (F : Sta Z h O n d v)
    (hd : decode k.bytes pc = .ok (.getstatic index, 3)) (hp : pc + 3 = pc') (g : ∀ T', On k Z n0 E T' h cells slots → Go E G (Fm E T' pc' Ls (v :: st))) : Go E G (Fm E T pc Ls st) := by
  obtain ⟨C, hh, L, a1, b1, ha, hb1, hF, X⟩ := W
  subst hp
  obtain ⟨T', X', e', st'⟩ := getS2 X C.1 C.2.2.2.2.2.2.1 C.2.2.2.1 w via hh F (g := mkF E.m pc Ls st) rfl (hb C.2.1 hd)
  exact (g T' ⟨C, e', L, a1, b1, ha, hb1, hF, X'⟩).step st'
theorem go_putF (W : On k Z n0 E T h cells slots) {R0 O n d host K : String} {index kk : Nat} {ty : FieldType} (w : (Cond.fieldLink k.y.cls index R0 n d).before a0 Z = true ∨ (Cond.fieldLinkNest k.y.cls index R0 n d host).before a0 Z = true) (via : Via Z R0 O n d) {a : Addr} {v old : Value} (F : Fld Z h a O n d old) (Ex : Exa Z h a K)
    (L : (Cond.lays K O n d).before a0 Z = true ∨ ((Cond.laysFinal K O n d).before a0 Z = true ∧ k.y.cls = O ∧ k.y.name = "<init>")) (wi : (Cond.instantiable K kk).before a0 Z = true) (hty : parseFieldDescriptor d = some ty) (hn : narrow ty v = v) (hf : fits ty v = true) (hn0 : n0 ≤ a)
    (hd : decode k.bytes pc = .ok (.putfield index, 3)) (hp : pc + 3 = pc') (g : ∀ T' h', On k Z n0 E T' h' cells slots → Wr h h' a (Jvm.RoadKit.slotOf Z O n d) v → Go E G (Fm E T' pc' Ls st)) : Go E G (Fm E T pc Ls (v :: .ref a :: st)) := by
  obtain ⟨C, hh, Lc, a1, b1, ha, hb1, hF, X⟩ := W
  subst hp
  obtain ⟨T', h', X', e', W', st'⟩ := putF X C.1 C.2.2.2.2.2.2.1 C.2.2.2.1 w via hh F Ex (L.imp id fun q => ⟨q.1, q.2.1, C.2.2.2.2.2.2.2.1.trans q.2.2⟩) wi hty hn hf (g := mkF E.m pc Ls (v :: .ref a :: st)) rfl rfl (hb C.2.1 hd)
  exact (g T' h' ⟨C, e', _, a1, b1, ha, hb1, Fr.snoc X' hF hn0, X'⟩ W').step st'
theorem go_new (W : On k Z n0 E T h cells slots) {K : String} {index n : Nat} (w : (Cond.classLink k.y.cls index K).before a0 Z = true) (wi : (Cond.instantiable K n).before a0 Z = true) (wz : (Cond.initialized K).before a0 Z = true) (hd : decode k.bytes pc = .ok (.new index, 3)) (hc : cells + 1 ≤ k.rm.cells) (hl : slots + n ≤ k.rm.slots) (hp : pc + 3 = pc')
    (g : ∀ T' h' a, a = h.size → On k Z n0 E T' h' (cells + 1) (slots + n) → Ext h h' → Exa Z h' a K → (∀ {O nm d : String} {ty : FieldType}, Laid Z a0 K O nm d → parseFieldDescriptor d = some ty → Fld Z h' a O nm d (defaultValue ty)) → (∃ cell : Cell, h'[a]? = some cell ∧ cell.vm = .none ∧ cell.monitor = {}) → Go E G (Fm E T' pc' Ls (.ref a :: st))) : Go E G (Fm E T pc Ls st) := by
  obtain ⟨C, hh, L, a1, b1, ha, hb1, hF, X⟩ := W
  subst hp
  obtain ⟨T', h', X', e', E', A', D', M', st'⟩ := newO X C.1 C.2.2.2.2.2.2.1 C.2.2.2.1 w wi wz hh (g := mkF E.m pc Ls st) rfl (hb C.2.1 hd) (Nat.le_trans (Nat.add_le_add_right ha 1) hc) (Nat.le_trans (Nat.add_le_add_right hb1 n) hl)
  exact (g T' h' _ rfl ⟨C, e', L, _, _, Nat.add_le_add_right ha 1, Nat.add_le_add_right hb1 n, hF, X'⟩ E' A' D' M').step st'
theorem go_initO (W : On k Z n0 E T h cells slots) {index : Nat} (w1 : (Cond.methodLink k.y.cls index Lib.objectInit).before a0 Z = true) (w2 : (Cond.instanceMethod Lib.objectInit).before a0 Z = true) (w3 : (Cond.code Lib.objectInit ⟨#[0xb1]⟩ 1 none).before a0 Z = true) {a : Addr} (hd : decode k.bytes pc = .ok (.invokespecial index, 3)) (hm : Ls.size = k.maxL) (hf : 1 ≤ k.rm.frames) (hl : (st.map fun v => v.category).sum + 12 ≤ k.rm.locals) (hp : pc + 3 = pc')
    (g : ∀ T', On k Z n0 E T' h cells slots → Go E G (Fm E T' pc' Ls st)) : Go E G (Fm E T pc Ls (.ref a :: st)) := by
  obtain ⟨C, hh, L, a1, b1, ha, hb1, hF, X⟩ := W
  subst hp
  obtain ⟨T', X', e', st'⟩ := initO X C.1 C.2.2.2.2.2.2.1 C.2.2.2.1 w1 w2 w3 hh (g := mkF E.m pc Ls (.ref a :: st)) rfl (hm.trans C.2.2.1.symm) rfl (hb C.2.1 hd) hf (W := (st.map fun v => v.category).sum) (by show 2 * 0 + _ ≤ _; omega) hl
  exact (g T' ⟨C, e', L, a1, b1, ha, hb1, hF, X'⟩).step st'
theorem go_castY (W : On k Z n0 E T h cells slots) {K : String} {index : Nat} (w : (Cond.classLink k.y.cls index K).before a0 Z = true) {a : Addr} (F : Ins Z h a K true) (hd : decode k.bytes pc = .ok (.checkcast index, 3)) (hp : pc + 3 = pc') (g : ∀ T', On k Z n0 E T' h cells slots → Go E G (Fm E T' pc' Ls (.ref a :: st))) : Go E G (Fm E T pc Ls (.ref a :: st)) := by
  obtain ⟨C, hh, L, a1, b1, ha, hb1, hF, X⟩ := W
  subst hp
  obtain ⟨T', X', e', st'⟩ := castY X C.1 C.2.2.2.2.2.2.1 C.2.2.2.1 w hh F (g := mkF E.m pc Ls (.ref a :: st)) rfl rfl (hb C.2.1 hd)
  exact (g T' ⟨C, e', L, a1, b1, ha, hb1, hF, X'⟩).step st'
theorem go_instY (W : On k Z n0 E T h cells slots) {K : String} {index : Nat} (w : (Cond.classLink k.y.cls index K).before a0 Z = true) {a : Addr} (F : Ins Z h a K true) (hd : decode k.bytes pc = .ok (.instanceof index, 3)) (hp : pc + 3 = pc') (g : ∀ T', On k Z n0 E T' h cells slots → Go E G (Fm E T' pc' Ls (.int 1 :: st))) : Go E G (Fm E T pc Ls (.ref a :: st)) := by
  obtain ⟨C, hh, L, a1, b1, ha, hb1, hF, X⟩ := W
  subst hp
  obtain ⟨T', X', e', st'⟩ := instY X C.1 C.2.2.2.2.2.2.1 C.2.2.2.1 w hh F (g := mkF E.m pc Ls (.ref a :: st)) rfl rfl (hb C.2.1 hd)
  exact (g T' ⟨C, e', L, a1, b1, ha, hb1, hF, X'⟩).step st'
/-! arrays -/
theorem go_newP (W : On k Z n0 E T h cells slots) {aty : ArrayType} (w : (Cond.arrayClass (newarray.typeOf aty)).before a0 Z = true) {n : Int32} (hd : decode k.bytes pc = .ok (.newarray aty, 2)) (hn : ¬ n < 0) (cap : Nat) (hcap : n.toNatClampNeg ≤ cap) (hb8 : cap * 8 ≤ 536870912) (hc : cells + 1 ≤ k.rm.cells) (hl : slots + cap ≤ k.rm.slots) (hp : pc + 2 = pc')
    (g : ∀ T' h' cA a, a = h.size → On k Z n0 E T' h' (cells + 1) (slots + cap) → Ext h h' → Arr Z h' a (newA cA (newarray.typeOf aty) n) (newarray.typeOf aty) → Go E G (Fm E T' pc' Ls (.ref a :: st))) : Go E G (Fm E T pc Ls (.int n :: st)) := by
  obtain ⟨C, hh, L, a1, b1, ha, hb1, hF, X⟩ := W
  subst hp
  obtain ⟨T', h', cA, X', e', E', A', st'⟩ := newP X C.1 C.2.2.2.2.2.2.1 w hh (g := mkF E.m pc Ls (.int n :: st)) rfl (hb C.2.1 hd) rfl hn hcap hb8 (Nat.le_trans (Nat.add_le_add_right ha 1) hc) (Nat.le_trans (Nat.add_le_add_right hb1 cap) hl)
  exact (g T' h' cA _ rfl ⟨C, e', L, _, _, Nat.add_le_add_right ha 1, Nat.add_le_add_right hb1 cap, hF, X'⟩ E' A').step st'
theorem go_arraylength (W : On k Z n0 E T h cells slots) {a : Addr} {cl : Cell} {ty : FieldType} {z : Int32} (A : Arr Z h a cl ty) (hz : cl.slots.size.toInt32 = z) (hd : decode k.bytes pc = .ok (.arraylength, 1)) (hp : pc + 1 = pc') (g : Go E G (Fm E T pc' Ls (.int z :: st))) : Go E G (Fm E T pc Ls (.ref a :: st)) := by
  obtain ⟨C, hh, L, a1, b1, ha, hb1, hF, X⟩ := W
  subst hp; subst hz
  exact g.step fun t r => X.arraylength C.1 (by rw [hh]; exact A.1) (State.isArrayOf_alike C.2.2.2.2.2.2.1.alike A.2.1) (g := mkF E.m pc Ls (.ref a :: st)) rfl rfl (hb C.2.1 hd) _ r
theorem go_stI (W : On k Z n0 E T h cells slots) {a : Addr} {cl : Cell} (A : Arr Z h a cl .int) {j : Int32} {x : Int32} (hj : ¬ (j < 0 ∨ cl.slots.size ≤ j.toNatClampNeg)) (hn0 : n0 ≤ a) (hd : decode k.bytes pc = .ok (.iastore, 1)) (hp : pc + 1 = pc') (g : ∀ T' h', On k Z n0 E T' h' cells slots → Wr h h' a j.toNatClampNeg (.int x) → Go E G (Fm E T' pc' Ls st)) : Go E G (Fm E T pc Ls (.int x :: .int j :: .ref a :: st)) := by
  obtain ⟨C, hh, L, a1, b1, ha, hb1, hF, X⟩ := W
  subst hp
  obtain ⟨T', h', X', e', W', st'⟩ := stI X C.1 C.2.2.2.2.2.2.1 hh A hj (g := mkF E.m pc Ls (.int x :: .int j :: .ref a :: st)) rfl rfl (hb C.2.1 hd)
  exact (g T' h' ⟨C, e', _, a1, b1, ha, hb1, Fr.snoc X' hF hn0, X'⟩ W').step st'
theorem go_stJ (W : On k Z n0 E T h cells slots) {a : Addr} {cl : Cell} (A : Arr Z h a cl .long) {j : Int32} {x : Int64} (hj : ¬ (j < 0 ∨ cl.slots.size ≤ j.toNatClampNeg)) (hn0 : n0 ≤ a) (hd : decode k.bytes pc = .ok (.lastore, 1)) (hp : pc + 1 = pc') (g : ∀ T' h', On k Z n0 E T' h' cells slots → Wr h h' a j.toNatClampNeg (.long x) → Go E G (Fm E T' pc' Ls st)) : Go E G (Fm E T pc Ls (.long x :: .int j :: .ref a :: st)) := by
  obtain ⟨C, hh, L, a1, b1, ha, hb1, hF, X⟩ := W
  subst hp
  obtain ⟨T', h', X', e', W', st'⟩ := stJ X C.1 C.2.2.2.2.2.2.1 hh A hj (g := mkF E.m pc Ls (.long x :: .int j :: .ref a :: st)) rfl rfl (hb C.2.1 hd)
  exact (g T' h' ⟨C, e', _, a1, b1, ha, hb1, Fr.snoc X' hF hn0, X'⟩ W').step st'
theorem go_stC (W : On k Z n0 E T h cells slots) {a : Addr} {cl : Cell} (A : Arr Z h a cl .char) {j : Int32} {x : Int32} (hj : ¬ (j < 0 ∨ cl.slots.size ≤ j.toNatClampNeg)) (hn0 : n0 ≤ a) (hd : decode k.bytes pc = .ok (.castore, 1)) (hp : pc + 1 = pc') (g : ∀ T' h', On k Z n0 E T' h' cells slots → Wr h h' a j.toNatClampNeg (.int (nar .char x)) → Go E G (Fm E T' pc' Ls st)) : Go E G (Fm E T pc Ls (.int x :: .int j :: .ref a :: st)) := by
  obtain ⟨C, hh, L, a1, b1, ha, hb1, hF, X⟩ := W
  subst hp
  obtain ⟨T', h', X', e', W', st'⟩ := stC X C.1 C.2.2.2.2.2.2.1 hh A hj (g := mkF E.m pc Ls (.int x :: .int j :: .ref a :: st)) rfl rfl (hb C.2.1 hd)
  exact (g T' h' ⟨C, e', _, a1, b1, ha, hb1, Fr.snoc X' hF hn0, X'⟩ W').step st'
theorem go_stB (W : On k Z n0 E T h cells slots) {a : Addr} {cl : Cell} (A : Arr Z h a cl .byte) {j : Int32} {x : Int32} (hj : ¬ (j < 0 ∨ cl.slots.size ≤ j.toNatClampNeg)) (hn0 : n0 ≤ a) (hd : decode k.bytes pc = .ok (.bastore, 1)) (hp : pc + 1 = pc') (g : ∀ T' h', On k Z n0 E T' h' cells slots → Wr h h' a j.toNatClampNeg (.int (nar .byte x)) → Go E G (Fm E T' pc' Ls st)) : Go E G (Fm E T pc Ls (.int x :: .int j :: .ref a :: st)) := by
  obtain ⟨C, hh, L, a1, b1, ha, hb1, hF, X⟩ := W
  subst hp
  obtain ⟨T', h', X', e', W', st'⟩ := stB X C.1 C.2.2.2.2.2.2.1 hh A hj (g := mkF E.m pc Ls (.int x :: .int j :: .ref a :: st)) rfl rfl (hb C.2.1 hd)
  exact (g T' h' ⟨C, e', _, a1, b1, ha, hb1, Fr.snoc X' hF hn0, X'⟩ W').step st'
theorem go_stZ (W : On k Z n0 E T h cells slots) {a : Addr} {cl : Cell} (A : Arr Z h a cl .boolean) {j : Int32} {x : Int32} (hj : ¬ (j < 0 ∨ cl.slots.size ≤ j.toNatClampNeg)) (hn0 : n0 ≤ a) (hd : decode k.bytes pc = .ok (.bastore, 1)) (hp : pc + 1 = pc') (g : ∀ T' h', On k Z n0 E T' h' cells slots → Wr h h' a j.toNatClampNeg (.int (nar .boolean x)) → Go E G (Fm E T' pc' Ls st)) : Go E G (Fm E T pc Ls (.int x :: .int j :: .ref a :: st)) := by
  obtain ⟨C, hh, L, a1, b1, ha, hb1, hF, X⟩ := W
  subst hp
  obtain ⟨T', h', X', e', W', st'⟩ := stZ X C.1 C.2.2.2.2.2.2.1 hh A hj (g := mkF E.m pc Ls (.int x :: .int j :: .ref a :: st)) rfl rfl (hb C.2.1 hd)
  exact (g T' h' ⟨C, e', _, a1, b1, ha, hb1, Fr.snoc X' hF hn0, X'⟩ W').step st'
theorem go_iaload (W : On k Z n0 E T h cells slots) {a : Addr} {cl : Cell} (A : Arr Z h a cl .int) {j : Int32} {v : Value} (hj : ¬ (j < 0 ∨ cl.slots.size ≤ j.toNatClampNeg)) (hat : cl.slots[j.toNatClampNeg]? = some v) (hd : decode k.bytes pc = .ok (.iaload, 1)) (hp : pc + 1 = pc') (g : Go E G (Fm E T pc' Ls (v :: st))) : Go E G (Fm E T pc Ls (.int j :: .ref a :: st)) := by
  obtain ⟨C, hh, L, a1, b1, ha, hb1, hF, X⟩ := W
  subst hp
  exact g.step fun t r => X.iaload C.1 (j := j) (v := v) (by rw [hh]; exact A.1) (State.isArrayOf_alike C.2.2.2.2.2.2.1.alike A.2.1) A.2.2 hj hat (g := mkF E.m pc Ls (.int j :: .ref a :: st)) rfl rfl (hb C.2.1 hd) _ r
theorem go_laload (W : On k Z n0 E T h cells slots) {a : Addr} {cl : Cell} (A : Arr Z h a cl .long) {j : Int32} {v : Value} (hj : ¬ (j < 0 ∨ cl.slots.size ≤ j.toNatClampNeg)) (hat : cl.slots[j.toNatClampNeg]? = some v) (hd : decode k.bytes pc = .ok (.laload, 1)) (hp : pc + 1 = pc') (g : Go E G (Fm E T pc' Ls (v :: st))) : Go E G (Fm E T pc Ls (.int j :: .ref a :: st)) := by
  obtain ⟨C, hh, L, a1, b1, ha, hb1, hF, X⟩ := W
  subst hp
  exact g.step fun t r => X.laload C.1 (j := j) (v := v) (by rw [hh]; exact A.1) (State.isArrayOf_alike C.2.2.2.2.2.2.1.alike A.2.1) A.2.2 hj hat (g := mkF E.m pc Ls (.int j :: .ref a :: st)) rfl rfl (hb C.2.1 hd) _ r
theorem go_caload (W : On k Z n0 E T h cells slots) {a : Addr} {cl : Cell} (A : Arr Z h a cl .char) {j : Int32} {v : Value} (hj : ¬ (j < 0 ∨ cl.slots.size ≤ j.toNatClampNeg)) (hat : cl.slots[j.toNatClampNeg]? = some v) (hd : decode k.bytes pc = .ok (.caload, 1)) (hp : pc + 1 = pc') (g : Go E G (Fm E T pc' Ls (v :: st))) : Go E G (Fm E T pc Ls (.int j :: .ref a :: st)) := by
  obtain ⟨C, hh, L, a1, b1, ha, hb1, hF, X⟩ := W
  subst hp
  exact g.step fun t r => X.caload C.1 (j := j) (v := v) (by rw [hh]; exact A.1) (State.isArrayOf_alike C.2.2.2.2.2.2.1.alike A.2.1) A.2.2 hj hat (g := mkF E.m pc Ls (.int j :: .ref a :: st)) rfl rfl (hb C.2.1 hd) _ r
theorem go_baload (W : On k Z n0 E T h cells slots) {a : Addr} {cl : Cell} (A : Arr Z h a cl .byte) {j : Int32} {v : Value} (hj : ¬ (j < 0 ∨ cl.slots.size ≤ j.toNatClampNeg)) (hat : cl.slots[j.toNatClampNeg]? = some v) (hd : decode k.bytes pc = .ok (.baload, 1)) (hp : pc + 1 = pc') (g : Go E G (Fm E T pc' Ls (v :: st))) : Go E G (Fm E T pc Ls (.int j :: .ref a :: st)) := by
  obtain ⟨C, hh, L, a1, b1, ha, hb1, hF, X⟩ := W
  subst hp
  exact g.step fun t r => X.baloadBytes C.1 (j := j) (v := v) (by rw [hh]; exact A.1) (State.isArrayOf_alike C.2.2.2.2.2.2.1.alike A.2.1) A.2.2 hj hat (g := mkF E.m pc Ls (.int j :: .ref a :: st)) rfl rfl (hb C.2.1 hd) _ r
theorem go_aaload (W : On k Z n0 E T h cells slots) {a : Addr} {cl : Cell} {ty : FieldType} (A : Arr Z h a cl ty) (hty : ty.isReference = true) {j : Int32} {v : Value} (hj : ¬ (j < 0 ∨ cl.slots.size ≤ j.toNatClampNeg)) (hat : cl.slots[j.toNatClampNeg]? = some v) (hd : decode k.bytes pc = .ok (.aaload, 1)) (hp : pc + 1 = pc') (g : Go E G (Fm E T pc' Ls (v :: st))) : Go E G (Fm E T pc Ls (.int j :: .ref a :: st)) := by
  obtain ⟨C, hh, L, a1, b1, ha, hb1, hF, X⟩ := W
  subst hp
  exact g.step fun t r => X.aaload C.1 (j := j) (v := v) (by rw [hh]; exact A.1) (State.isArrayOf_alike C.2.2.2.2.2.2.1.alike A.2.1) hty A.2.2 hj hat (g := mkF E.m pc Ls (.int j :: .ref a :: st)) rfl rfl (hb C.2.1 hd) _ r
/-! the end -/
def EndQ (s : State) (n0 : Nat) (Q : Option Value → Heap → Prop) (C N : Nat) : State → Outcome → Prop := fun t o => ∃ v L, o = .returned v ∧ (Q v t.heap ∧ Fr n0 L) ∧ FrameEnd s o t L C N
/-- a method's contract: from the heap h0, with these arguments, it returns, and Q holds of what it hands back and of the heap that it leaves -/
def Ct (l : Launch) (Z : State) (k : Mt) (as' : Array Value) (h0 : Heap) (n0 : Nat) (Q : Option Value → Heap → Prop) : Prop :=
  ∀ ws, MetFree l k.y (head1 (Cond.code k.y k.bytes k.maxL k.ret :: ws) k.rm) (fun a U => a = as' ∧ Z.Warmed39 U.vm ∧ U.heap = h0) (fun _ _ _ _ _ => True) (fun _ U o U' => ∃ v L, o = .returned v ∧ (Q v U'.heap ∧ Fr n0 L) ∧ FrameEnd U o U' L k.rm.cells k.rm.slots)
theorem Ct.of {l : Launch} {as' : Array Value} {h0 : Heap} {Q : Option Value → Heap → Prop} (hpl : plainFor k.y = true) (ef : ∀ m, entryFrame m as' k.maxL = mkF m 0 Ls []) (body : ∀ (E : Cx) (T : State), On k Z n0 E T h0 0 0 → Go E (EndQ E.s n0 Q k.rm.cells k.rm.slots) (Fm E T 0 Ls [])) : Ct l Z k as' h0 n0 Q := fun ws => by
  refine MetFree.of_bodySF hpl hisR ?_
  intro p e s m args below meth c s₁ Bd hml0 hP hK
  obtain ⟨rfl, hZ, hh⟩ := hP
  have X0 : Stand p l e k.rm s m args below meth c s₁ [] 0 0 := Stand.of_body Bd
  obtain ⟨s₂, o, h1, h2, h3, h4⟩ := body (p, l, e, s, m, args, below, meth, c) s₁ ⟨⟨Bd.exec, Bd.bytes, hml0, findClass_of_methodNamed Bd.named, Bd.returns, Bd.notSynchronized, hZ, (name_of_methodNamed Bd.named Bd.method).1, Bd.named⟩, by rw [← hh, Bd.state]; rfl, [], 0, 0, Nat.le_refl _, Nat.le_refl _, Fr.nil n0, X0⟩
  exact ⟨s₂, o, castTop (ef m) h1, h2, h3, h4⟩
theorem Ct.mono {l : Launch} {as' : Array Value} {h0 : Heap} {Q Q' : Option Value → Heap → Prop} (c : Ct l Z k as' h0 n0 Q) (q : ∀ v h, Q v h → Q' v h) : Ct l Z k as' h0 n0 Q' := fun ws p e ha hc hk s m args below hf happ hP hK => by
  obtain ⟨n, o, h1, h2, h3, v, L, h4, h5, h6⟩ := c ws p e ha hc hk s m args below hf happ hP hK
  exact ⟨n, o, h1, h2, h3, v, L, h4, ⟨q _ _ h5.1, h5.2⟩, h6⟩
theorem go_ret (W : On k Z n0 E T h cells slots) {Q : Option Value → Heap → Prop} {C N : Nat} {w : Value} {t : FieldType} {i : Instr} (hret : k.ret = some t) (hn : narrow t w = w)
    (hi : (i = .ireturn ∧ (t = .int ∨ t = .boolean ∨ t = .byte ∨ t = .char ∨ t = .short) ∧ ∃ z, w = .int z) ∨ (i = .lreturn ∧ t = .long ∧ ∃ z, w = .long z) ∨ (i = .dreturn ∧ t = .double ∧ ∃ z, w = .double z) ∨ (i = .freturn ∧ t = .float ∧ ∃ z, w = .float z) ∨ (i = .areturn ∧ t.isReference = true ∧ w.isRef = true))
    (hd : decode k.bytes pc = .ok (i, 1)) (hC : cells ≤ C) (hN : slots ≤ N) (hq : Q (some w) h) : Go E (EndQ E.s n0 Q C N) (Fm E T pc Ls (w :: st)) := by
  obtain ⟨⟨c1, c2, c3, c4, c5, c6, c7, c8, c9⟩, hh, L, a1, b1, ha, hb1, hF, X⟩ := W
  have hr : E.meth.sig.returnType = some t := c5.trans hret
  obtain ⟨fs, hr', hrun, hended, hW, hsame⟩ := X.leave (v := some w) (fun h => by rw [hr] at h; cases h) c6
  exact ⟨_, _, retOut X c1 hr hn hi (hb c2 hd) hr', hrun, hended, some w, L, rfl, ⟨by show Q (some w) T.heap; rw [hh]; exact hq, hF⟩, ⟨_, rfl⟩, hW, hsame.mono (Nat.le_trans ha hC) (Nat.le_trans hb1 hN)⟩
theorem go_retI (W : On k Z n0 E T h cells slots) {Q : Option Value → Heap → Prop} {C N : Nat} {w : Int32} {t : FieldType} (hret : k.ret = some t) (ht : t = .int ∨ t = .boolean ∨ t = .byte ∨ t = .char ∨ t = .short) (hn : narrow t (.int w) = .int w) (hd : decode k.bytes pc = .ok (.ireturn, 1)) (hC : cells ≤ C) (hN : slots ≤ N) (hq : Q (some (.int w)) h) : Go E (EndQ E.s n0 Q C N) (Fm E T pc Ls (.int w :: st)) :=
  go_ret W hret hn (Or.inl ⟨rfl, ht, _, rfl⟩) hd hC hN hq
theorem go_retL (W : On k Z n0 E T h cells slots) {Q : Option Value → Heap → Prop} {C N : Nat} {w : Int64} (hret : k.ret = some .long) (hd : decode k.bytes pc = .ok (.lreturn, 1)) (hC : cells ≤ C) (hN : slots ≤ N) (hq : Q (some (.long w)) h) : Go E (EndQ E.s n0 Q C N) (Fm E T pc Ls (.long w :: st)) :=
  go_ret W hret rfl (Or.inr (Or.inl ⟨rfl, rfl, _, rfl⟩)) hd hC hN hq
theorem go_retA (W : On k Z n0 E T h cells slots) {Q : Option Value → Heap → Prop} {C N : Nat} {w : Value} {t : FieldType} (hret : k.ret = some t) (ht : t.isReference = true) (hw : w.isRef = true) (hn : narrow t w = w) (hd : decode k.bytes pc = .ok (.areturn, 1)) (hC : cells ≤ C) (hN : slots ≤ N) (hq : Q (some w) h) : Go E (EndQ E.s n0 Q C N) (Fm E T pc Ls (w :: st)) :=
  go_ret W hret hn (Or.inr (Or.inr (Or.inr (Or.inr ⟨rfl, ht, hw⟩)))) hd hC hN hq
theorem go_retV (W : On k Z n0 E T h cells slots) {Q : Option Value → Heap → Prop} {C N : Nat} (hret : k.ret = none) (hd : decode k.bytes pc = .ok (.return_, 1)) (hC : cells ≤ C) (hN : slots ≤ N) (hq : Q none h) : Go E (EndQ E.s n0 Q C N) (Fm E T pc Ls []) := by
  obtain ⟨⟨c1, c2, c3, c4, c5, c6, c7, c8, c9⟩, hh, L, a1, b1, ha, hb1, hF, X⟩ := W
  have hr : E.meth.sig.returnType = none := c5.trans hret
  obtain ⟨fs, hr', hrun, hended, hW, hsame⟩ := X.leave (v := none) (fun _ => rfl) c6
  exact ⟨_, _, X.returnOut c1 hr (hb c2 hd) hr', hrun, hended, none, L, rfl, ⟨by show Q none T.heap; rw [hh]; exact hq, hF⟩, ⟨_, rfl⟩, hW, hsame.mono (Nat.le_trans ha hC) (Nat.le_trans hb1 hN)⟩
/-! calls: by the callee's contract -/
theorem Ct.back {kc : Mt} {as' : Array Value} {Q : Option Value → Heap → Prop} (c : Ct E.l Z kc as' h n0 Q) (hZ : Z.Warmed39 E.s.vm) (wc : (Cond.code kc.y kc.bytes kc.maxL kc.ret).before a0 Z = true) (wz : (Cond.initialized kc.y.cls).before a0 Z = true) {W len : Nat} (hf : kc.rm.frames + 1 ≤ k.rm.frames) (hl : W + (kc.maxL + 11) + kc.rm.locals ≤ k.rm.locals) :
    Back E.l k.rm E.p E.e E.below E.s E.args kc.y len W (fun A a => a = as' ∧ A.U.heap = h ∧ A.cells + kc.rm.cells ≤ k.rm.cells ∧ A.slots + kc.rm.slots ≤ k.rm.slots)
      (fun A _ v B => ∃ L, (Q v B.U.heap ∧ Fr n0 L) ∧ B.locs = A.locs ++ L ∧ B.cells = A.cells + kc.rm.cells ∧ B.slots = A.slots + kc.rm.slots) :=
  backOf (Q := fun v h L => Q v h ∧ Fr n0 L) (c []) hZ wc wz hf hl
theorem go_callS (W : On k Z n0 E T h cells slots) {kc : Mt} {index : Nat} {argsL rest : List Value} {ps : List FieldType} {r : Option FieldType} {Q : Option Value → Heap → Prop} (w1 : (Cond.methodLink k.y.cls index kc.y).before a0 Z = true) (w2 : (Cond.static kc.y).before a0 Z = true) (w3 : (Cond.initialized kc.y.cls).before a0 Z = true) (w4 : (Cond.code kc.y kc.bytes kc.maxL kc.ret).before a0 Z = true)
    (c : Ct E.l Z kc argsL.toArray h n0 Q) (hy : kc.y.cls ≠ "java/lang/invoke/MethodHandle" ∧ kc.y.cls ≠ "java/lang/invoke/VarHandle") (hdesc : parseMethodDescriptor kc.y.desc = some ⟨ps, r⟩) (hlen : argsL.length = ps.length) (hst : st = argsL.reverse ++ rest) (hm : Ls.size = k.maxL)
    (hf : kc.rm.frames + 1 ≤ k.rm.frames) (hl : (rest.map fun v => v.category).sum + (kc.maxL + 11) + kc.rm.locals ≤ k.rm.locals) (hcl : cells + kc.rm.cells ≤ k.rm.cells) (hsl : slots + kc.rm.slots ≤ k.rm.slots) (hd : decode k.bytes pc = .ok (.invokestatic index, 3)) (hp : pc + 3 = pc')
    (g : ∀ v T' h', Q v h' → On k Z n0 E T' h' (cells + kc.rm.cells) (slots + kc.rm.slots) → Go E G (Fm E T' pc' Ls (v.toList ++ rest))) : Go E G (Fm E T pc Ls st) := by
  obtain ⟨C, hh, L, a1, b1, ha, hb1, hF, X⟩ := W
  subst hp
  have hZ := C.2.2.2.2.2.2.1
  obtain ⟨v, _, ⟨T', L', k', n'⟩, -, X', ⟨Lc, hQ, l', y', z'⟩, st'⟩ := Jvm.LawKit.callS X C.1 (y := kc.y) C.2.2.2.1 (mvT hZ w1) (mvT hZ w2) (mvT hZ w3) (mvT hZ w4) hy (c.back (k := k) (W := (rest.map fun v => v.category).sum) hZ w4 w3 hf hl) (g := mkF E.m pc Ls st) rfl (hm.trans C.2.2.1.symm) (argsL := argsL) (rest := rest) (lenOf hdesc hlen) hst (by show 2 * 0 + _ ≤ _; omega) (hb C.2.1 hd) (fun _ _ => ⟨rfl, hh, Nat.le_trans (Nat.add_le_add_right ha _) hcl, Nat.le_trans (Nat.add_le_add_right hb1 _) hsl⟩)
  dsimp only [Pt.U, Pt.locs, Pt.cells, Pt.slots] at X' l' y' z' st' hQ
  subst l' y' z'
  exact (g v T' _ hQ.1 ⟨C, rfl, _, _, _, Nat.add_le_add_right ha _, Nat.add_le_add_right hb1 _, Fr.app hF hQ.2, X'⟩).step st'
theorem go_callN (W : On k Z n0 E T h cells slots) {kc : Mt} {index : Nat} {a : Addr} {argsL rest : List Value} {ps : List FieldType} {r : Option FieldType} {Q : Option Value → Heap → Prop} (w1 : (Cond.methodLink k.y.cls index kc.y).before a0 Z = true) (w2 : (Cond.instanceMethod kc.y).before a0 Z = true) (w3 : (Cond.initialized kc.y.cls).before a0 Z = true) (w4 : (Cond.code kc.y kc.bytes kc.maxL none).before a0 Z = true)
    (c : Ct E.l Z kc (.ref a :: argsL).toArray h n0 Q) (hi : kc.y.name = "<init>") (hrt : kc.ret = none) (hy : kc.y.cls ≠ "java/lang/invoke/MethodHandle" ∧ kc.y.cls ≠ "java/lang/invoke/VarHandle") (hdesc : parseMethodDescriptor kc.y.desc = some ⟨ps, r⟩) (hlen : argsL.length = ps.length) (hst : st = argsL.reverse ++ .ref a :: rest) (hm : Ls.size = k.maxL)
    (hf : kc.rm.frames + 1 ≤ k.rm.frames) (hl : (rest.map fun v => v.category).sum + (kc.maxL + 11) + kc.rm.locals ≤ k.rm.locals) (hcl : cells + kc.rm.cells ≤ k.rm.cells) (hsl : slots + kc.rm.slots ≤ k.rm.slots) (hd : decode k.bytes pc = .ok (.invokespecial index, 3)) (hp : pc + 3 = pc')
    (g : ∀ v T' h', Q v h' → On k Z n0 E T' h' (cells + kc.rm.cells) (slots + kc.rm.slots) → Go E G (Fm E T' pc' Ls (v.toList ++ rest))) : Go E G (Fm E T pc Ls st) := by
  obtain ⟨C, hh, L, a1, b1, ha, hb1, hF, X⟩ := W
  subst hp
  have hZ := C.2.2.2.2.2.2.1
  obtain ⟨v, _, ⟨T', L', k', n'⟩, -, X', ⟨Lc, hQ, l', y', z'⟩, st'⟩ := X.specialBack C.1 (y := kc.y) hi C.2.2.2.1 (mvT hZ w1) (mvT hZ w2) (mvT hZ w4) hy (c.back (k := k) (W := (rest.map fun v => v.category).sum) hZ (hrt ▸ w4) w3 hf hl) (g := mkF E.m pc Ls st) rfl (hm.trans C.2.2.1.symm) (Steps.refl _) (a := a) (argsL := argsL) (rest := rest) (lenOf hdesc hlen) hst (by show 2 * 0 + _ ≤ _; omega) (hb C.2.1 hd) (fun _ _ => ⟨rfl, hh, Nat.le_trans (Nat.add_le_add_right ha _) hcl, Nat.le_trans (Nat.add_le_add_right hb1 _) hsl⟩)
  dsimp only [Pt.U, Pt.locs, Pt.cells, Pt.slots] at X' l' y' z' st' hQ
  subst l' y' z'
  exact (g v T' _ hQ.1 ⟨C, rfl, _, _, _, Nat.add_le_add_right ha _, Nat.add_le_add_right hb1 _, Fr.app hF hQ.2, X'⟩).step fun t q => st'.trans q
theorem go_callV (W : On k Z n0 E T h cells slots) {kc : Mt} {y : MethodName} {K : String} {index : Nat} {a : Addr} {argsL rest : List Value} {ps : List FieldType} {r : Option FieldType} {Q : Option Value → Heap → Prop} (w1 : (Cond.methodLink k.y.cls index y).before a0 Z = true) (w2 : (Cond.declares y).before a0 Z = true) (nf : NotFace E.s y) (w3 : (Cond.selects K y kc.y).before a0 Z = true) (w4 : (Cond.instanceMethod kc.y).before a0 Z = true) (w5 : (Cond.initialized kc.y.cls).before a0 Z = true) (w6 : (Cond.code kc.y kc.bytes kc.maxL kc.ret).before a0 Z = true)
    (Ex : Exa Z h a K) (c : Ct E.l Z kc (.ref a :: argsL).toArray h n0 Q) (hy : y.cls ≠ "java/lang/invoke/MethodHandle" ∧ y.cls ≠ "java/lang/invoke/VarHandle") (hdesc : parseMethodDescriptor y.desc = some ⟨ps, r⟩) (hlen : argsL.length = ps.length) (hst : st = argsL.reverse ++ .ref a :: rest) (hm : Ls.size = k.maxL)
    (hf : kc.rm.frames + 1 ≤ k.rm.frames) (hl : (rest.map fun v => v.category).sum + (kc.maxL + 11) + kc.rm.locals ≤ k.rm.locals) (hcl : cells + kc.rm.cells ≤ k.rm.cells) (hsl : slots + kc.rm.slots ≤ k.rm.slots) (hd : decode k.bytes pc = .ok (.invokevirtual index, 3)) (hp : pc + 3 = pc')
    (g : ∀ v T' h', Q v h' → On k Z n0 E T' h' (cells + kc.rm.cells) (slots + kc.rm.slots) → Go E G (Fm E T' pc' Ls (v.toList ++ rest))) : Go E G (Fm E T pc Ls st) := by
  obtain ⟨C, hh, L, a1, b1, ha, hb1, hF, X⟩ := W
  subst hp
  have hZ := C.2.2.2.2.2.2.1
  obtain ⟨cq, kq, qa, qb, qc⟩ := isOf (T := T) hZ hh Ex
  obtain ⟨v, _, ⟨T', L', k', n'⟩, -, X', ⟨Lc, hQ, l', y', z'⟩, st'⟩ := X.virtualBack C.1 (y := y) (z := kc.y) C.2.2.2.1 (mvT hZ w1) (mvT hZ w2) nf (mvT hZ w3) (mvT hZ w4) hy (c.back (k := k) (W := (rest.map fun v => v.category).sum) hZ w6 w5 hf hl) qa qc (g := mkF E.m pc Ls st) rfl (hm.trans C.2.2.1.symm) (Steps.refl _) (argsL := argsL) (rest := rest) (lenOf hdesc hlen) hst (by show 2 * 0 + _ ≤ _; omega) (hb C.2.1 hd) (fun _ _ => ⟨rfl, hh, Nat.le_trans (Nat.add_le_add_right ha _) hcl, Nat.le_trans (Nat.add_le_add_right hb1 _) hsl⟩)
  dsimp only [Pt.U, Pt.locs, Pt.cells, Pt.slots] at X' l' y' z' st' hQ
  subst l' y' z'
  exact (g v T' _ hQ.1 ⟨C, rfl, _, _, _, Nat.add_le_add_right ha _, Nat.add_le_add_right hb1 _, Fr.app hF hQ.2, X'⟩).step fun t q => st'.trans q
theorem nf_sel (W : On k Z n0 E T h cells slots) {y : MethodName} (w : (Cond.selects y.cls y y).before a0 Z = true) : NotFace E.s y := notFace_of_selects (args := #[]) (mvT W.hZ w)
theorem nf_sup (W : On k Z n0 E T h cells slots) {y : MethodName} {S : String} (w : (Cond.superclass y.cls S).before a0 Z = true) : NotFace E.s y := nf_super (args := #[]) (mvT W.hZ w)

theorem go_instNo (W : On k Z n0 E T h cells slots) {K C : String} {index : Nat} (w : (Cond.classLink k.y.cls index K).before a0 Z = true) {a : Addr} (Ex : Exa Z h a C) (F : ∃ c t, Z.vm.findClass C = some c ∧ Z.vm.findClass K = some t ∧ Z.vm.assignable c t = false) (hd : decode k.bytes pc = .ok (.instanceof index, 3)) (hp : pc + 3 = pc') (g : ∀ T', On k Z n0 E T' h cells slots → Go E G (Fm E T' pc' Ls (.int 0 :: st))) : Go E G (Fm E T pc Ls (.ref a :: st)) := by
  obtain ⟨C, hh, L, a1, b1, ha, hb1, hF, X⟩ := W
  subst hp
  obtain ⟨T', X', e', st'⟩ := instNo X C.1 C.2.2.2.2.2.2.1 C.2.2.2.1 w hh Ex F (g := mkF E.m pc Ls (.ref a :: st)) rfl rfl (hb C.2.1 hd)
  exact (g T' ⟨C, e', L, a1, b1, ha, hb1, hF, X'⟩).step st'
theorem go_instNull (W : On k Z n0 E T h cells slots) {index : Nat} (hd : decode k.bytes pc = .ok (.instanceof index, 3)) (hp : pc + 3 = pc') (g : Go E G (Fm E T pc' Ls (.int 0 :: st))) : Go E G (Fm E T pc Ls (.null :: st)) := by
  obtain ⟨C, hh, L, a1, b1, ha, hb1, hF, X⟩ := W
  subst hp
  exact g.step (X.instanceofNull C.1 (g := mkF E.m pc Ls (.null :: st)) rfl rfl (hb C.2.1 hd))
theorem go_castNull (W : On k Z n0 E T h cells slots) {index : Nat} (hd : decode k.bytes pc = .ok (.checkcast index, 3)) (hp : pc + 3 = pc') (g : Go E G (Fm E T pc' Ls (.null :: st))) : Go E G (Fm E T pc Ls (.null :: st)) := by
  obtain ⟨C, hh, L, a1, b1, ha, hb1, hF, X⟩ := W
  subst hp
  exact g.step (X.checkcastNull C.1 (g := mkF E.m pc Ls (.null :: st)) rfl rfl (hb C.2.1 hd))
theorem go_putFN (W : On k Z n0 E T h cells slots) {R0 O n d K : String} {index kk : Nat} {ty : FieldType} (w : (Cond.fieldLink k.y.cls index R0 n d).before a0 Z = true) (via : Via Z R0 O n d) {a : Addr} {v v' old : Value} (F : Fld Z h a O n d old) (Ex : Exa Z h a K)
    (L : (Cond.lays K O n d).before a0 Z = true ∨ ((Cond.laysFinal K O n d).before a0 Z = true ∧ k.y.cls = O ∧ k.y.name = "<init>")) (wi : (Cond.instantiable K kk).before a0 Z = true) (hty : parseFieldDescriptor d = some ty) (hn : narrow ty v = v') (hf : fits ty v' = true) (hn0 : n0 ≤ a)
    (hd : decode k.bytes pc = .ok (.putfield index, 3)) (hp : pc + 3 = pc') (g : ∀ T' h', On k Z n0 E T' h' cells slots → Wr h h' a (Jvm.RoadKit.slotOf Z O n d) v' → Go E G (Fm E T' pc' Ls st)) : Go E G (Fm E T pc Ls (v :: .ref a :: st)) := by
  obtain ⟨C, hh, Lc, a1, b1, ha, hb1, hF, X⟩ := W
  subst hp
  obtain ⟨T', h', X', e', W', st'⟩ := putFN X C.1 C.2.2.2.2.2.2.1 C.2.2.2.1 w via hh F Ex (L.imp id fun q => ⟨q.1, q.2.1, C.2.2.2.2.2.2.2.1.trans q.2.2⟩) wi hty hn hf (g := mkF E.m pc Ls (v :: .ref a :: st)) rfl rfl (hb C.2.1 hd)
  exact (g T' h' ⟨C, e', _, a1, b1, ha, hb1, Fr.snoc X' hF hn0, X'⟩ W').step st'
theorem go_newR (W : On k Z n0 E T h cells slots) {K : String} {index : Nat} (w1 : (Cond.classLink k.y.cls index K).before a0 Z = true) (w2 : (Cond.arrayOver (.object K)).before a0 Z = true) {n : Int32} (hd : decode k.bytes pc = .ok (.anewarray index, 3)) (hn : ¬ n < 0) (cap : Nat) (hcap : n.toNatClampNeg ≤ cap) (hb8 : cap * 8 ≤ 536870912) (hc : cells + 1 ≤ k.rm.cells) (hl : slots + cap ≤ k.rm.slots) (hp : pc + 3 = pc')
    (g : ∀ T' h' cA a, a = h.size → On k Z n0 E T' h' (cells + 1) (slots + cap) → Ext h h' → Arr Z h' a (newA cA (.object K) n) (.object K) → Ovr Z cA K → Go E G (Fm E T' pc' Ls (.ref a :: st))) : Go E G (Fm E T pc Ls (.int n :: st)) := by
  obtain ⟨C, hh, L, a1, b1, ha, hb1, hF, X⟩ := W
  subst hp
  obtain ⟨T', h', cA, X', e', E', A', O', st'⟩ := newR X C.1 C.2.2.2.2.2.2.1 C.2.2.2.1 w1 w2 hh (g := mkF E.m pc Ls (.int n :: st)) rfl (hb C.2.1 hd) rfl hn hcap hb8 (Nat.le_trans (Nat.add_le_add_right ha 1) hc) (Nat.le_trans (Nat.add_le_add_right hb1 cap) hl)
  exact (g T' h' cA _ rfl ⟨C, e', L, _, _, Nat.add_le_add_right ha 1, Nat.add_le_add_right hb1 cap, hF, X'⟩ E' A' O').step st'
theorem go_stR (W : On k Z n0 E T h cells slots) {a : Addr} {cl : Cell} {ty : FieldType} (A : Arr Z h a cl ty) {j : Int32} {v : Value} (hj : ¬ (j < 0 ∨ cl.slots.size ≤ j.toNatClampNeg)) (hty : ty.isReference = true) (F : Sto Z h a v) (hn0 : n0 ≤ a) (hd : decode k.bytes pc = .ok (.aastore, 1)) (hp : pc + 1 = pc') (g : ∀ T' h', On k Z n0 E T' h' cells slots → Wr h h' a j.toNatClampNeg v → Go E G (Fm E T' pc' Ls st)) : Go E G (Fm E T pc Ls (v :: .int j :: .ref a :: st)) := by
  obtain ⟨C, hh, L, a1, b1, ha, hb1, hF, X⟩ := W
  subst hp
  obtain ⟨T', h', X', e', W', st'⟩ := stR X C.1 C.2.2.2.2.2.2.1 hh A hj hty F (g := mkF E.m pc Ls (v :: .int j :: .ref a :: st)) rfl rfl (hb C.2.1 hd)
  exact (g T' h' ⟨C, e', _, a1, b1, ha, hb1, Fr.snoc X' hF hn0, X'⟩ W').step st'
theorem go_newPE (W : On k Z n0 E T h cells slots) {aty : ArrayType} (w : (Cond.arrayClass (newarray.typeOf aty)).before a0 Z = true) {n : Int32} (hd : decode k.bytes pc = .ok (.newarray aty, 2)) (hn : ¬ n < 0) (cap : Nat) (hcap : n.toNatClampNeg ≤ cap) (hb8 : cap * 8 ≤ 536870912) (hc : cells + 1 ≤ k.rm.cells) (hl : slots + cap ≤ k.rm.slots) {ad : String} (had : "[" ++ (newarray.typeOf aty).toString = ad) (hp : pc + 2 = pc')
    (g : ∀ T' h' cA a, a = h.size → On k Z n0 E T' h' (cells + 1) (slots + cap) → Ext h h' → Arr Z h' a (newA cA (newarray.typeOf aty) n) (newarray.typeOf aty) → Exa Z h' a ad → Go E G (Fm E T' pc' Ls (.ref a :: st))) : Go E G (Fm E T pc Ls (.int n :: st)) := by
  obtain ⟨C, hh, L, a1, b1, ha, hb1, hF, X⟩ := W
  subst hp
  obtain ⟨T', h', cA, X', e', E', A', Q', st'⟩ := newPE X C.1 C.2.2.2.2.2.2.1 w hh (g := mkF E.m pc Ls (.int n :: st)) rfl (hb C.2.1 hd) rfl hn hcap hb8 (Nat.le_trans (Nat.add_le_add_right ha 1) hc) (Nat.le_trans (Nat.add_le_add_right hb1 cap) hl) had
  exact (g T' h' cA _ rfl ⟨C, e', L, _, _, Nat.add_le_add_right ha 1, Nat.add_le_add_right hb1 cap, hF, X'⟩ E' A' Q').step st'
theorem go_cloneA (W : On k Z n0 E T h cells slots) {ad : String} {index : Nat} (w1 : (Cond.methodLink k.y.cls index ⟨ad, "clone", "()Ljava/lang/Object;"⟩).before a0 Z = true) (w2 : (Cond.sameMethod ad "java/lang/Object" "clone" "()Ljava/lang/Object;").before a0 Z = true) (w3 : (Cond.native ⟨"java/lang/Object", "clone", "()Ljava/lang/Object;"⟩).before a0 Z = true)
    (w4 : (Cond.instanceMethod ⟨"java/lang/Object", "clone", "()Ljava/lang/Object;"⟩).before a0 Z = true) (w5 : (Cond.selects ad ⟨ad, "clone", "()Ljava/lang/Object;"⟩ ⟨"java/lang/Object", "clone", "()Ljava/lang/Object;"⟩).before a0 Z = true) (w6 : (Cond.castable ad "java/lang/Cloneable").before a0 Z = true)
    {a : Addr} {cl : Cell} {ty : FieldType} (A : Arr Z h a cl ty) (Ex : Exa Z h a ad) (F : FitC Z cl) (hd : decode k.bytes pc = .ok (.invokevirtual index, 3)) (hm : Ls.size = k.maxL) (hf : 1 ≤ k.rm.frames) (hl : (st.map fun v => v.category).sum + 14 ≤ k.rm.locals) (cap : Nat) (hcap : cl.slots.size ≤ cap) (hc : cells + 1 ≤ k.rm.cells) (hsl : slots + cap ≤ k.rm.slots) (hp : pc + 3 = pc')
    (g : ∀ T' h' b, b = h.size → On k Z n0 E T' h' (cells + 1) (slots + cap) → Ext h h' → Arr Z h' b (cloneOf cl) ty → Exa Z h' b ad → Go E G (Fm E T' pc' Ls (.ref b :: st))) : Go E G (Fm E T pc Ls (.ref a :: st)) := by
  obtain ⟨C, hh, L, a1, b1, ha, hb1, hF, X⟩ := W
  subst hp
  obtain ⟨T', h', X', e', E', A', Q', st'⟩ := cloneA X C.1 C.2.2.2.2.2.2.1 C.2.2.2.1 w1 w2 w3 w4 w5 w6 hh A Ex F (g := mkF E.m pc Ls (.ref a :: st)) rfl (hm.trans C.2.2.1.symm) rfl (hb C.2.1 hd) hf (W := (st.map fun v => v.category).sum) (by show 2 * 0 + _ ≤ _; omega) hl hcap (Nat.le_trans (Nat.add_le_add_right ha 1) hc) (Nat.le_trans (Nat.add_le_add_right hb1 cap) hsl)
  exact (g T' h' _ rfl ⟨C, e', L, _, _, Nat.add_le_add_right ha 1, Nat.add_le_add_right hb1 cap, hF, X'⟩ E' A' Q').step st'
theorem go_lamConst (W : On k Z n0 E T h cells slots) {index : Nat} {sh : Lambda.Shape} (w : (Cond.lambdaSite k.y pc index sh).before a0 Z = true) (hcap : sh.captured = []) (hd : decode k.bytes pc = .ok (.invokedynamic index, 5)) (hm : Ls.size = k.maxL) (hl : (st.map fun v => v.category).sum + 3072 ≤ k.rm.locals) (hp : pc + 5 = pc') (g : ∀ a : Addr, Go E G (Fm E T pc' Ls (.ref a :: st))) : Go E G (Fm E T pc Ls st) := by
  obtain ⟨C, hh, L, a1, b1, ha, hb1, hF, X⟩ := W
  subst hp
  have hZ := C.2.2.2.2.2.2.1
  obtain ⟨cK, one, hat⟩ := Cond.lambdaSite_spec w
  obtain ⟨mD, kD, cfD, i0, p0, lk, hmD, hkD, -, -, -, hfind, -, -, hl'⟩ := State.lambdaAt?_spec hat
  have hn : Z.methodNamed? k.y = some E.m := by
    have q : (Z.setVm E.s.vm).methodNamed? k.y = some E.m := C.2.2.2.2.2.2.2.2
    rw [State.methodNamed?_setVm hZ.alike] at q; exact q
  cases hn.symm.trans hmD
  obtain ⟨k', q1, q2⟩ := hZ.alike.2.2 _ _ hkD
  rcases hl' with ⟨a, cell, rfl, -⟩ | ⟨-, -, hne⟩
  · have hw : E.e.platform.lambdaLinkWords = 3072 := by rw [X.admits.platform]
    exact (g a).step fun t r => X.lambdaConstant C.1 (g := mkF E.m pc Ls st) rfl (hm.trans C.2.2.1.symm) (hb C.2.1 hd) q1 (by rw [q2]; exact hfind) (by rw [hw]; show 2 * 0 + (st.map fun v => v.category).sum + 3072 ≤ _; omega) r
  · exact absurd hcap hne
theorem go_lsw (W : On k Z n0 E T h cells slots) {dflt : Int} {prs : Array (Int × Int)} {len : Nat} {i : Int32} (hd : decode k.bytes pc = .ok (.lookupswitch dflt prs, len)) (hsrt : ∀ a b a_1 b_1 : Int, ((a, b), a_1, b_1) ∈ prs.toList.zip prs.toList.tail → a < a_1) (ho : 0 ≤ (pc : Int) + lookupswitch.offset prs.toList dflt i.toInt) (hp : ((pc : Int) + lookupswitch.offset prs.toList dflt i.toInt).toNat = pc') (g : Go E G (Fm E T pc' Ls st)) : Go E G (Fm E T pc Ls (.int i :: st)) := by
  subst hp
  refine g.step fun t r => ?_
  have q := W.here; have hx := W.exec; have hd' := hb W.bytes hd
  show Steps E.p.tables E.e E.below (T.setTop { method := E.m, pc := pc, locals := Ls, stack := .int i :: st, locked := none }) t
  jvm_step q [q.top, hx, hd', ho, lookupswitch.wp_chain]
  exact ⟨hsrt, r⟩
theorem Sta.kept {h' : Heap} {C n d : String} {v : Value} (S : Sta Z h C n d v) (K : Keep h h' []) : Sta Z h' C n d v := by
  obtain ⟨cf, i, k, f, st, cell, h1, h2, h3, h4, h5, r⟩ := S; exact ⟨cf, i, k, f, st, cell, h1, h2, h3, h4, K.2.1 _ _ h5 nin0, r⟩
theorem Arr.kept {h' : Heap} {a : Addr} {c : Cell} {ty : FieldType} (A : Arr Z h a c ty) (K : Keep h h' []) : Arr Z h' a c ty := ⟨K.2.1 _ _ A.1 nin0, A.2⟩
theorem Keep.ext0 {h' : Heap} {ws : List Addr} (K : Keep h h' ws) (q : ∀ x ∈ ws, h.size ≤ x) : Ext h h' := ⟨K.1, fun a c e => K.2.1 a c e fun y => absurd (Array.getElem?_eq_some_iff.mp e).1 (Nat.not_lt.mpr (q a y))⟩
theorem Keep.nil {h' : Heap} {ws : List Addr} (K : Keep h h' ws) (q : ∀ x ∈ ws, h.size ≤ x) : Keep h h' [] := ⟨K.1, fun a c e _ => (Keep.ext0 K q).2 a c e, K.2.2⟩
/-! an array by a function -/
def Af (Z : State) (h : Heap) (a : Addr) (ty : FieldType) (n : Nat) (f : Nat → Value) : Prop := ∃ c : Cell, Arr Z h a c ty ∧ c.slots.size = n ∧ ∀ i, i < n → c.slots[i]? = some (f i)
theorem Af.lt {a : Addr} {ty : FieldType} {n : Nat} {f : Nat → Value} (F : Af Z h a ty n f) : a < h.size := by obtain ⟨c, A, -⟩ := F; exact A.lt
theorem Af.ext {h' : Heap} {a : Addr} {ty : FieldType} {n : Nat} {f : Nat → Value} (F : Af Z h a ty n f) (X : Ext h h') : Af Z h' a ty n f := by obtain ⟨c, A, r⟩ := F; exact ⟨c, A.ext X, r⟩
theorem Af.other {h' : Heap} {a b : Addr} {sl : Nat} {v : Value} {ty : FieldType} {n : Nat} {f : Nat → Value} (F : Af Z h b ty n f) (W : Wr h h' a sl v) (q : b ≠ a) : Af Z h' b ty n f := by obtain ⟨c, A, r⟩ := F; exact ⟨c, A.other W q, r⟩
theorem Af.keep {h' : Heap} {a : Addr} {ws : List Addr} {ty : FieldType} {n : Nat} {f : Nat → Value} (F : Af Z h a ty n f) (K : Keep h h' ws) (q : a ∉ ws) : Af Z h' a ty n f := by obtain ⟨c, A, r⟩ := F; exact ⟨c, ⟨K.2.1 a c A.1 q, A.2⟩, r⟩
theorem Af.congr {a : Addr} {ty : FieldType} {n : Nat} {f f' : Nat → Value} (F : Af Z h a ty n f) (q : ∀ i, i < n → f i = f' i) : Af Z h a ty n f' := by obtain ⟨c, A, r1, r2⟩ := F; exact ⟨c, A, r1, fun i hi => by rw [r2 i hi, q i hi]⟩
theorem Af.new {a : Addr} {ty : FieldType} {cA : ClassId} {z : Int32} {n : Nat} (A : Arr Z h a (newA cA ty z) ty) (q : z.toNatClampNeg = n) : Af Z h a ty n (fun _ => defaultValue ty) := ⟨_, A, by rw [sz_new]; exact q, fun i hi => by subst q; simp [newA, hi]⟩
theorem Af.set {h' : Heap} {a : Addr} {v : Value} {ty : FieldType} {n : Nat} {f : Nat → Value} {i : Nat} (F : Af Z h a ty n f) (W : Wr h h' a i v) (hi : i < n) : Af Z h' a ty n (fun j => if j = i then v else f j) := by
  obtain ⟨c, A, r1, r2⟩ := F
  refine ⟨_, A.same W, by rw [sz_set]; exact r1, fun j hj => ?_⟩
  by_cases e : j = i
  · subst e; simp [Cell.setSlot, r1, hi]
  · show _ = some (if j = i then v else f j)
    rw [if_neg e, ← r2 j hj]; exact Array.getElem?_setIfInBounds_ne (Ne.symm e)
theorem Af.at {a : Addr} {ty : FieldType} {n : Nat} {f : Nat → Value} {j : Int32} {i : Nat} (F : Af Z h a ty n f) (hj : j.toInt = (i : Int)) (hi : i < n) : j.toNatClampNeg = i ∧ ∃ c : Cell, Arr Z h a c ty ∧ ¬ (j < 0 ∨ c.slots.size ≤ j.toNatClampNeg) ∧ c.slots[j.toNatClampNeg]? = some (f i) := by
  obtain ⟨c, A, r1, r2⟩ := F
  have e : j.toNatClampNeg = i := by simp only [Int32.toNatClampNeg]; omega
  refine ⟨e, c, A, ?_, by rw [e]; exact r2 i hi⟩
  rw [e, r1, Int32.lt_iff_toInt_lt, hj]
  simp only [Int32.reduceToInt]; omega
theorem Af.len {a : Addr} {ty : FieldType} {n : Nat} {f : Nat → Value} (F : Af Z h a ty n f) : ∃ c : Cell, Arr Z h a c ty ∧ c.slots.size = n := by obtain ⟨c, A, r1, -⟩ := F; exact ⟨c, A, r1⟩
theorem Af.fitC {a : Addr} {ty : FieldType} {n : Nat} {f : Nat → Value} (F : Af Z h a ty n f) (q : ∀ i, i < n → fits ty (f i) = true) : ∃ c : Cell, Arr Z h a c ty ∧ c.slots.size = n ∧ FitC Z c ∧ ∀ i, i < n → c.slots[i]? = some (f i) := by
  obtain ⟨c, A, r1, r2⟩ := F
  refine ⟨c, A, r1, fitC_of A fun i hi v hv => ?_, r2⟩
  rw [r1] at hi
  rw [r2 i hi] at hv
  cases hv; exact q i hi
theorem go_cloneF (W : On k Z n0 E T h cells slots) {ad : String} {index : Nat} (w1 : (Cond.methodLink k.y.cls index ⟨ad, "clone", "()Ljava/lang/Object;"⟩).before a0 Z = true) (w2 : (Cond.sameMethod ad "java/lang/Object" "clone" "()Ljava/lang/Object;").before a0 Z = true) (w3 : (Cond.native ⟨"java/lang/Object", "clone", "()Ljava/lang/Object;"⟩).before a0 Z = true)
    (w4 : (Cond.instanceMethod ⟨"java/lang/Object", "clone", "()Ljava/lang/Object;"⟩).before a0 Z = true) (w5 : (Cond.selects ad ⟨ad, "clone", "()Ljava/lang/Object;"⟩ ⟨"java/lang/Object", "clone", "()Ljava/lang/Object;"⟩).before a0 Z = true) (w6 : (Cond.castable ad "java/lang/Cloneable").before a0 Z = true)
    {a : Addr} {ty : FieldType} {n : Nat} {f : Nat → Value} (F : Af Z h a ty n f) (hfit : ∀ i, i < n → fits ty (f i) = true) (Ex : Exa Z h a ad) (hd : decode k.bytes pc = .ok (.invokevirtual index, 3)) (hm : Ls.size = k.maxL) (hf : 1 ≤ k.rm.frames) (hl : (st.map fun v => v.category).sum + 14 ≤ k.rm.locals) (hc : cells + 1 ≤ k.rm.cells) (hsl : slots + n ≤ k.rm.slots) (hp : pc + 3 = pc')
    (g : ∀ T' h' b, b = h.size → On k Z n0 E T' h' (cells + 1) (slots + n) → Ext h h' → Af Z h' b ty n f → Exa Z h' b ad → Go E G (Fm E T' pc' Ls (.ref b :: st))) : Go E G (Fm E T pc Ls (.ref a :: st)) := by
  obtain ⟨c, A, r1, FC, r2⟩ := F.fitC hfit
  exact go_cloneA W w1 w2 w3 w4 w5 w6 A Ex FC hd hm hf hl n (Nat.le_of_eq r1) hc hsl hp fun T' h' b e W' E' A' Q' => g T' h' b e W' E' ⟨_, A', r1, r2⟩ Q'
theorem go_lenF (W : On k Z n0 E T h cells slots) {a : Addr} {ty : FieldType} {n : Nat} {f : Nat → Value} {z : Int32} (F : Af Z h a ty n f) (hz : n.toInt32 = z) (hd : decode k.bytes pc = .ok (.arraylength, 1)) (hp : pc + 1 = pc') (g : Go E G (Fm E T pc' Ls (.int z :: st))) : Go E G (Fm E T pc Ls (.ref a :: st)) := by
  obtain ⟨c, A, r⟩ := F.len
  exact go_arraylength W A (by rw [r]; exact hz) hd hp g
theorem go_stIF (W : On k Z n0 E T h cells slots) {a : Addr} {n : Nat} {f : Nat → Value} {j : Int32} {i : Nat} {x : Int32} (F : Af Z h a .int n f) (hj : j.toInt = (i : Int)) (hi : i < n) (hn0 : n0 ≤ a) (hd : decode k.bytes pc = .ok (.iastore, 1)) (hp : pc + 1 = pc') (g : ∀ T' h', On k Z n0 E T' h' cells slots → Wr h h' a i (.int x) → Af Z h' a .int n (fun j => if j = i then (.int x) else f j) → Go E G (Fm E T' pc' Ls st)) : Go E G (Fm E T pc Ls (.int x :: .int j :: .ref a :: st)) := by
  obtain ⟨e, c, A, q, -⟩ := F.at hj hi
  exact go_stI W A q hn0 hd hp fun T' h' W' R => g T' h' W' (e ▸ R) (F.set (e ▸ R) hi)
theorem go_stJF (W : On k Z n0 E T h cells slots) {a : Addr} {n : Nat} {f : Nat → Value} {j : Int32} {i : Nat} {x : Int64} (F : Af Z h a .long n f) (hj : j.toInt = (i : Int)) (hi : i < n) (hn0 : n0 ≤ a) (hd : decode k.bytes pc = .ok (.lastore, 1)) (hp : pc + 1 = pc') (g : ∀ T' h', On k Z n0 E T' h' cells slots → Wr h h' a i (.long x) → Af Z h' a .long n (fun j => if j = i then (.long x) else f j) → Go E G (Fm E T' pc' Ls st)) : Go E G (Fm E T pc Ls (.long x :: .int j :: .ref a :: st)) := by
  obtain ⟨e, c, A, q, -⟩ := F.at hj hi
  exact go_stJ W A q hn0 hd hp fun T' h' W' R => g T' h' W' (e ▸ R) (F.set (e ▸ R) hi)
theorem go_stCF (W : On k Z n0 E T h cells slots) {a : Addr} {n : Nat} {f : Nat → Value} {j : Int32} {i : Nat} {x : Int32} (F : Af Z h a .char n f) (hj : j.toInt = (i : Int)) (hi : i < n) (hn0 : n0 ≤ a) (hd : decode k.bytes pc = .ok (.castore, 1)) (hp : pc + 1 = pc') (g : ∀ T' h', On k Z n0 E T' h' cells slots → Wr h h' a i (.int (nar .char x)) → Af Z h' a .char n (fun j => if j = i then (.int (nar .char x)) else f j) → Go E G (Fm E T' pc' Ls st)) : Go E G (Fm E T pc Ls (.int x :: .int j :: .ref a :: st)) := by
  obtain ⟨e, c, A, q, -⟩ := F.at hj hi
  exact go_stC W A q hn0 hd hp fun T' h' W' R => g T' h' W' (e ▸ R) (F.set (e ▸ R) hi)
theorem go_stBF (W : On k Z n0 E T h cells slots) {a : Addr} {n : Nat} {f : Nat → Value} {j : Int32} {i : Nat} {x : Int32} (F : Af Z h a .byte n f) (hj : j.toInt = (i : Int)) (hi : i < n) (hn0 : n0 ≤ a) (hd : decode k.bytes pc = .ok (.bastore, 1)) (hp : pc + 1 = pc') (g : ∀ T' h', On k Z n0 E T' h' cells slots → Wr h h' a i (.int (nar .byte x)) → Af Z h' a .byte n (fun j => if j = i then (.int (nar .byte x)) else f j) → Go E G (Fm E T' pc' Ls st)) : Go E G (Fm E T pc Ls (.int x :: .int j :: .ref a :: st)) := by
  obtain ⟨e, c, A, q, -⟩ := F.at hj hi
  exact go_stB W A q hn0 hd hp fun T' h' W' R => g T' h' W' (e ▸ R) (F.set (e ▸ R) hi)
theorem go_stZF (W : On k Z n0 E T h cells slots) {a : Addr} {n : Nat} {f : Nat → Value} {j : Int32} {i : Nat} {x : Int32} (F : Af Z h a .boolean n f) (hj : j.toInt = (i : Int)) (hi : i < n) (hn0 : n0 ≤ a) (hd : decode k.bytes pc = .ok (.bastore, 1)) (hp : pc + 1 = pc') (g : ∀ T' h', On k Z n0 E T' h' cells slots → Wr h h' a i (.int (nar .boolean x)) → Af Z h' a .boolean n (fun j => if j = i then (.int (nar .boolean x)) else f j) → Go E G (Fm E T' pc' Ls st)) : Go E G (Fm E T pc Ls (.int x :: .int j :: .ref a :: st)) := by
  obtain ⟨e, c, A, q, -⟩ := F.at hj hi
  exact go_stZ W A q hn0 hd hp fun T' h' W' R => g T' h' W' (e ▸ R) (F.set (e ▸ R) hi)
theorem go_ialoadF (W : On k Z n0 E T h cells slots) {a : Addr} {n : Nat} {f : Nat → Value} {j : Int32} {i : Nat} {v : Value} (F : Af Z h a .int n f) (hj : j.toInt = (i : Int)) (hi : i < n) (hv : f i = v) (hd : decode k.bytes pc = .ok (.iaload, 1)) (hp : pc + 1 = pc') (g : Go E G (Fm E T pc' Ls (v :: st))) : Go E G (Fm E T pc Ls (.int j :: .ref a :: st)) := by
  obtain ⟨e, c, A, q, r⟩ := F.at hj hi
  exact go_iaload W A q (hv ▸ r) hd hp g
theorem go_laloadF (W : On k Z n0 E T h cells slots) {a : Addr} {n : Nat} {f : Nat → Value} {j : Int32} {i : Nat} {v : Value} (F : Af Z h a .long n f) (hj : j.toInt = (i : Int)) (hi : i < n) (hv : f i = v) (hd : decode k.bytes pc = .ok (.laload, 1)) (hp : pc + 1 = pc') (g : Go E G (Fm E T pc' Ls (v :: st))) : Go E G (Fm E T pc Ls (.int j :: .ref a :: st)) := by
  obtain ⟨e, c, A, q, r⟩ := F.at hj hi
  exact go_laload W A q (hv ▸ r) hd hp g
theorem go_caloadF (W : On k Z n0 E T h cells slots) {a : Addr} {n : Nat} {f : Nat → Value} {j : Int32} {i : Nat} {v : Value} (F : Af Z h a .char n f) (hj : j.toInt = (i : Int)) (hi : i < n) (hv : f i = v) (hd : decode k.bytes pc = .ok (.caload, 1)) (hp : pc + 1 = pc') (g : Go E G (Fm E T pc' Ls (v :: st))) : Go E G (Fm E T pc Ls (.int j :: .ref a :: st)) := by
  obtain ⟨e, c, A, q, r⟩ := F.at hj hi
  exact go_caload W A q (hv ▸ r) hd hp g
theorem go_baloadF (W : On k Z n0 E T h cells slots) {a : Addr} {n : Nat} {f : Nat → Value} {j : Int32} {i : Nat} {v : Value} (F : Af Z h a .byte n f) (hj : j.toInt = (i : Int)) (hi : i < n) (hv : f i = v) (hd : decode k.bytes pc = .ok (.baload, 1)) (hp : pc + 1 = pc') (g : Go E G (Fm E T pc' Ls (v :: st))) : Go E G (Fm E T pc Ls (.int j :: .ref a :: st)) := by
  obtain ⟨e, c, A, q, r⟩ := F.at hj hi
  exact go_baload W A q (hv ▸ r) hd hp g
theorem go_callU (W : On k Z n0 E T h cells slots) {kc : Mt} {y : MethodName} {K owner : String} {index : Nat} {a : Addr} {argsL rest : List Value} {ps : List FieldType} {r : Option FieldType} {Q : Option Value → Heap → Prop} (w1 : (Cond.methodLink k.y.cls index y).before a0 Z = true) (w2 : (Cond.sameMethod y.cls owner y.name y.desc).before a0 Z = true) (w2' : (Cond.declares ⟨owner, y.name, y.desc⟩).before a0 Z = true) (w3 : (Cond.selects K y kc.y).before a0 Z = true) (w4 : (Cond.instanceMethod kc.y).before a0 Z = true) (w5 : (Cond.initialized kc.y.cls).before a0 Z = true) (w6 : (Cond.code kc.y kc.bytes kc.maxL kc.ret).before a0 Z = true)
    (Ex : Exa Z h a K) (c : Ct E.l Z kc (.ref a :: argsL).toArray h n0 Q) (hy : owner ≠ "java/lang/invoke/MethodHandle" ∧ owner ≠ "java/lang/invoke/VarHandle") (hdesc : parseMethodDescriptor y.desc = some ⟨ps, r⟩) (hlen : argsL.length = ps.length) (hst : st = argsL.reverse ++ .ref a :: rest) (hm : Ls.size = k.maxL)
    (hf : kc.rm.frames + 1 ≤ k.rm.frames) (hl : (rest.map fun v => v.category).sum + (kc.maxL + 11) + kc.rm.locals ≤ k.rm.locals) (hcl : cells + kc.rm.cells ≤ k.rm.cells) (hsl : slots + kc.rm.slots ≤ k.rm.slots) (hd : decode k.bytes pc = .ok (.invokevirtual index, 3)) (hp : pc + 3 = pc')
    (g : ∀ v T' h', Q v h' → On k Z n0 E T' h' (cells + kc.rm.cells) (slots + kc.rm.slots) → Go E G (Fm E T' pc' Ls (v.toList ++ rest))) : Go E G (Fm E T pc Ls st) := by
  obtain ⟨C, hh, L, a1, b1, ha, hb1, hF, X⟩ := W
  subst hp
  have hZ := C.2.2.2.2.2.2.1
  obtain ⟨cq, kq, qa, qb, qc⟩ := isOf (T := T) hZ hh Ex
  obtain ⟨v, _, ⟨T', L', k', n'⟩, -, X', ⟨Lc, hQ, l', y', z'⟩, st'⟩ := X.virtualBackUp C.1 (x := y) (y := kc.y) C.2.2.2.1 (mvT hZ w1) (mvT hZ w2) (mvT hZ w2') hy (mvT hZ w3) (mvT hZ w4) (c.back (k := k) (W := (rest.map fun v => v.category).sum) hZ w6 w5 hf hl) qa qc (g := mkF E.m pc Ls st) rfl (hm.trans C.2.2.1.symm) (Steps.refl _) (argsL := argsL) (rest := rest) (lenOf hdesc hlen) hst (by show 2 * 0 + _ ≤ _; omega) (hb C.2.1 hd) (fun _ _ => ⟨rfl, hh, Nat.le_trans (Nat.add_le_add_right ha _) hcl, Nat.le_trans (Nat.add_le_add_right hb1 _) hsl⟩)
  dsimp only [Pt.U, Pt.locs, Pt.cells, Pt.slots] at X' l' y' z' st' hQ
  subst l' y' z'
  exact (g v T' _ hQ.1 ⟨C, rfl, _, _, _, Nat.add_le_add_right ha _, Nat.add_le_add_right hb1 _, Fr.app hF hQ.2, X'⟩).step fun t q => st'.trans q
theorem go_callP (W : On k Z n0 E T h cells slots) {kc : Mt} {index : Nat} {a : Addr} {K : String} {argsL rest : List Value} {ps : List FieldType} {r : Option FieldType} {Q : Option Value → Heap → Prop} (w1 : (Cond.methodLink k.y.cls index kc.y).before a0 Z = true) (w2 : (Cond.instanceMethod kc.y).before a0 Z = true) (w3 : (Cond.selects kc.y.cls kc.y kc.y).before a0 Z = true) (w4 : (Cond.privateMethod kc.y).before a0 Z = true) (w5 : (Cond.initialized kc.y.cls).before a0 Z = true) (w6 : (Cond.code kc.y kc.bytes kc.maxL kc.ret).before a0 Z = true)
    (Ex : Exa Z h a K) (c : Ct E.l Z kc (.ref a :: argsL).toArray h n0 Q) (hy : kc.y.cls ≠ "java/lang/invoke/MethodHandle" ∧ kc.y.cls ≠ "java/lang/invoke/VarHandle") (hdesc : parseMethodDescriptor kc.y.desc = some ⟨ps, r⟩) (hlen : argsL.length = ps.length) (hst : st = argsL.reverse ++ .ref a :: rest) (hm : Ls.size = k.maxL)
    (hf : kc.rm.frames + 1 ≤ k.rm.frames) (hl : (rest.map fun v => v.category).sum + (kc.maxL + 11) + kc.rm.locals ≤ k.rm.locals) (hcl : cells + kc.rm.cells ≤ k.rm.cells) (hsl : slots + kc.rm.slots ≤ k.rm.slots) (hd : decode k.bytes pc = .ok (.invokevirtual index, 3)) (hp : pc + 3 = pc')
    (g : ∀ v T' h', Q v h' → On k Z n0 E T' h' (cells + kc.rm.cells) (slots + kc.rm.slots) → Go E G (Fm E T' pc' Ls (v.toList ++ rest))) : Go E G (Fm E T pc Ls st) := by
  obtain ⟨C, hh, L, a1, b1, ha, hb1, hF, X⟩ := W
  subst hp
  have hZ := C.2.2.2.2.2.2.1
  obtain ⟨cq, q1, q2⟩ := Ex.cell
  obtain ⟨v, _, ⟨T', L', k', n'⟩, -, X', ⟨Lc, hQ, l', y', z'⟩, st'⟩ := X.privateBack C.1 (y := kc.y) C.2.2.2.1 (mvT hZ w1) (mvT hZ w2) (mvT hZ w3) (Cond.privateMethod_at (mvP hZ w4 (args := #[]))) (mvT hZ w6) hy (c.back (k := k) (W := (rest.map fun v => v.category).sum) hZ w6 w5 hf hl) (g := mkF E.m pc Ls st) rfl (hm.trans C.2.2.1.symm) (Steps.refl _) (a := a) (by rw [hh]; exact q1) q2 (argsL := argsL) (rest := rest) (lenOf hdesc hlen) hst (by show 2 * 0 + _ ≤ _; omega) (hb C.2.1 hd) (fun _ _ => ⟨rfl, hh, Nat.le_trans (Nat.add_le_add_right ha _) hcl, Nat.le_trans (Nat.add_le_add_right hb1 _) hsl⟩)
  dsimp only [Pt.U, Pt.locs, Pt.cells, Pt.slots] at X' l' y' z' st' hQ
  subst l' y' z'
  exact (g v T' _ hQ.1 ⟨C, rfl, _, _, _, Nat.add_le_add_right ha _, Nat.add_le_add_right hb1 _, Fr.app hF hQ.2, X'⟩).step fun t q => st'.trans q
theorem go_callF (W : On k Z n0 E T h cells slots) {kc : Mt} {y : MethodName} {K : String} {index count : Nat} {a : Addr} {argsL rest : List Value} {ps : List FieldType} {r : Option FieldType} {Q : Option Value → Heap → Prop} (w1 : (Cond.methodLink k.y.cls index y).before a0 Z = true) (w2 : (Cond.declares y).before a0 Z = true) (w2' : (Cond.interfaceMethod y.cls y.cls y.name y.desc).before a0 Z = true) (w3 : (Cond.selects K y kc.y).before a0 Z = true) (w4 : (Cond.instanceMethod kc.y).before a0 Z = true) (w4' : (Cond.publicMethod kc.y).before a0 Z = true) (w4'' : (Cond.unhidden K y.name y.desc).before a0 Z = true) (wk : (Cond.castable K y.cls).before a0 Z = true) (w5 : (Cond.initialized kc.y.cls).before a0 Z = true) (w6 : (Cond.code kc.y kc.bytes kc.maxL kc.ret).before a0 Z = true)
    (Ex : Exa Z h a K) (c : Ct E.l Z kc (.ref a :: argsL).toArray h n0 Q) (hy : y.cls ≠ "java/lang/invoke/MethodHandle" ∧ y.cls ≠ "java/lang/invoke/VarHandle") (hdesc : parseMethodDescriptor y.desc = some ⟨ps, r⟩) (hlen : argsL.length = ps.length) (hst : st = argsL.reverse ++ .ref a :: rest) (hm : Ls.size = k.maxL)
    (hf : kc.rm.frames + 1 ≤ k.rm.frames) (hl : (rest.map fun v => v.category).sum + (kc.maxL + 11) + kc.rm.locals ≤ k.rm.locals) (hcl : cells + kc.rm.cells ≤ k.rm.cells) (hsl : slots + kc.rm.slots ≤ k.rm.slots) (hd : decode k.bytes pc = .ok (.invokeinterface index count, 5)) (hp : pc + 5 = pc')
    (g : ∀ v T' h', Q v h' → On k Z n0 E T' h' (cells + kc.rm.cells) (slots + kc.rm.slots) → Go E G (Fm E T' pc' Ls (v.toList ++ rest))) : Go E G (Fm E T pc Ls st) := by
  obtain ⟨C, hh, L, a1, b1, ha, hb1, hF, X⟩ := W
  subst hp
  have hZ := C.2.2.2.2.2.2.1
  obtain ⟨cq, kq, qa, qb, qc⟩ := isOf (T := T) hZ hh Ex
  obtain ⟨v, _, ⟨T', L', k', n'⟩, -, X', ⟨Lc, hQ, l', y', z'⟩, st'⟩ := X.interfaceBack C.1 (xi := y) (y := kc.y) C.2.2.2.1 (mvT hZ w1) (mvT hZ w2) (mvT hZ w2' (by simp [Cond.onTables, Cond.keepsFace, Cond.keeps, Cond.steady, Cond.faceAtom, hy.1, hy.2])) (mvT hZ w3) (mvT hZ w4) (mvT hZ w4') (mvT hZ w4'') (mvT hZ wk) hy (c.back (k := k) (W := (rest.map fun v => v.category).sum) hZ w6 w5 hf hl) qa qb qc (g := mkF E.m pc Ls st) rfl (hm.trans C.2.2.1.symm) (Steps.refl _) (argsL := argsL) (rest := rest) (lenOf hdesc hlen) hst (by show 2 * 0 + _ ≤ _; omega) (hb C.2.1 hd) (fun _ _ => ⟨rfl, hh, Nat.le_trans (Nat.add_le_add_right ha _) hcl, Nat.le_trans (Nat.add_le_add_right hb1 _) hsl⟩)
  dsimp only [Pt.U, Pt.locs, Pt.cells, Pt.slots] at X' l' y' z' st' hQ
  subst l' y' z'
  exact (g v T' _ hQ.1 ⟨C, rfl, _, _, _, Nat.add_le_add_right ha _, Nat.add_le_add_right hb1 _, Fr.app hF hQ.2, X'⟩).step fun t q => st'.trans q
end
end Jvm.GoKit
@@BLOCK:LamKit.lean.txt@@
namespace Jvm.Pilot.@@N@@
open Jvm Jvm.ClassFile Sem Op Lib Jvm.Free Jvm.Stand Jvm.LawKit Jvm.RoadKit Bundle Jvm.GoKit Jvm.Pilot.@@N@@.Jvm.D
abbrev Hw (a0 : Array Value) (Z : State) : Prop := ∀ d ∈ tables_1, d.before a0 Z = true
theorem w0 {a0 : Array Value} {Z : State} (hw : Hw a0 Z) : (Jvm.Cond.constant "com/example/hushmediator/hushmediator/search/JointDomainAdvancePinLaw" (7 : Nat) (2147483647 : Int32)).before a0 Z = true := hw _ (List.mem_of_getElem? (i := 0) rfl)
theorem w1 {a0 : Array Value} {Z : State} (hw : Hw a0 Z) : (Jvm.Cond.arrayClass Jvm.ClassFile.FieldType.int).before a0 Z = true := hw _ (List.mem_of_getElem? (i := 1) rfl)
theorem w2 {a0 : Array Value} {Z : State} (hw : Hw a0 Z) : (Jvm.Cond.classLink "com/example/hushmediator/hushmediator/search/JointDomainAdvancePinLaw" (8 : Nat) "com/example/hushmediator/hushmediator/search/JointDomain").before a0 Z = true := hw _ (List.mem_of_getElem? (i := 2) rfl)
theorem w3 {a0 : Array Value} {Z : State} (hw : Hw a0 Z) : (Jvm.Cond.instantiable "com/example/hushmediator/hushmediator/search/JointDomain" (3 : Nat)).before a0 Z = true := hw _ (List.mem_of_getElem? (i := 3) rfl)
theorem w4 {a0 : Array Value} {Z : State} (hw : Hw a0 Z) : (Jvm.Cond.initialized "com/example/hushmediator/hushmediator/search/JointDomain").before a0 Z = true := hw _ (List.mem_of_getElem? (i := 4) rfl)
theorem w5 {a0 : Array Value} {Z : State} (hw : Hw a0 Z) : (Jvm.Cond.methodLink "com/example/hushmediator/hushmediator/search/JointDomainAdvancePinLaw" (10 : Nat) ({ cls := "com/example/hushmediator/hushmediator/search/JointDomain", name := "<init>", desc := "([I[I)V" } : Jvm.MethodName)).before a0 Z = true := hw _ (List.mem_of_getElem? (i := 5) rfl)
theorem w6 {a0 : Array Value} {Z : State} (hw : Hw a0 Z) : (Jvm.Cond.instanceMethod ({ cls := "com/example/hushmediator/hushmediator/search/JointDomain", name := "<init>", desc := "([I[I)V" } : Jvm.MethodName)).before a0 Z = true := hw _ (List.mem_of_getElem? (i := 6) rfl)
theorem w7 {a0 : Array Value} {Z : State} (hw : Hw a0 Z) : (Jvm.Cond.code ({ cls := "com/example/hushmediator/hushmediator/search/JointDomain", name := "<init>", desc := "([I[I)V" } : Jvm.MethodName) prog_54_method_1_code (3 : Nat) (Option.none : Option Jvm.ClassFile.FieldType)).before a0 Z = true := hw _ (List.mem_of_getElem? (i := 7) rfl)
theorem w8 {a0 : Array Value} {Z : State} (hw : Hw a0 Z) : (Jvm.Cond.methodLink "com/example/hushmediator/hushmediator/search/JointDomain" (1 : Nat) ({ cls := "java/lang/Object", name := "<init>", desc := "()V" } : Jvm.MethodName)).before a0 Z = true := hw _ (List.mem_of_getElem? (i := 8) rfl)
theorem w9 {a0 : Array Value} {Z : State} (hw : Hw a0 Z) : (Jvm.Cond.instanceMethod ({ cls := "java/lang/Object", name := "<init>", desc := "()V" } : Jvm.MethodName)).before a0 Z = true := hw _ (List.mem_of_getElem? (i := 9) rfl)
theorem w10 {a0 : Array Value} {Z : State} (hw : Hw a0 Z) : (Jvm.Cond.code ({ cls := "java/lang/Object", name := "<init>", desc := "()V" } : Jvm.MethodName) object_method_1_code (1 : Nat) (Option.none : Option Jvm.ClassFile.FieldType)).before a0 Z = true := hw _ (List.mem_of_getElem? (i := 10) rfl)
theorem w11 {a0 : Array Value} {Z : State} (hw : Hw a0 Z) : (Jvm.Cond.methodLink "com/example/hushmediator/hushmediator/search/JointDomain" (7 : Nat) ({ cls := "[I", name := "clone", desc := "()Ljava/lang/Object;" } : Jvm.MethodName)).before a0 Z = true := hw _ (List.mem_of_getElem? (i := 11) rfl)
theorem w12 {a0 : Array Value} {Z : State} (hw : Hw a0 Z) : (Jvm.Cond.sameMethod "[I" "java/lang/Object" "clone" "()Ljava/lang/Object;").before a0 Z = true := hw _ (List.mem_of_getElem? (i := 12) rfl)
theorem w14 {a0 : Array Value} {Z : State} (hw : Hw a0 Z) : (Jvm.Cond.instanceMethod ({ cls := "java/lang/Object", name := "clone", desc := "()Ljava/lang/Object;" } : Jvm.MethodName)).before a0 Z = true := hw _ (List.mem_of_getElem? (i := 14) rfl)
theorem w15 {a0 : Array Value} {Z : State} (hw : Hw a0 Z) : (Jvm.Cond.selects "[I" ({ cls := "[I", name := "clone", desc := "()Ljava/lang/Object;" } : Jvm.MethodName) ({ cls := "java/lang/Object", name := "clone", desc := "()Ljava/lang/Object;" } : Jvm.MethodName)).before a0 Z = true := hw _ (List.mem_of_getElem? (i := 15) rfl)
theorem w16 {a0 : Array Value} {Z : State} (hw : Hw a0 Z) : (Jvm.Cond.native ({ cls := "java/lang/Object", name := "clone", desc := "()Ljava/lang/Object;" } : Jvm.MethodName)).before a0 Z = true := hw _ (List.mem_of_getElem? (i := 16) rfl)
theorem w17 {a0 : Array Value} {Z : State} (hw : Hw a0 Z) : (Jvm.Cond.castable "[I" "java/lang/Cloneable").before a0 Z = true := hw _ (List.mem_of_getElem? (i := 17) rfl)
theorem w18 {a0 : Array Value} {Z : State} (hw : Hw a0 Z) : (Jvm.Cond.classLink "com/example/hushmediator/hushmediator/search/JointDomain" (8 : Nat) "[I").before a0 Z = true := hw _ (List.mem_of_getElem? (i := 18) rfl)
theorem w20 {a0 : Array Value} {Z : State} (hw : Hw a0 Z) : (Jvm.Cond.fieldLink "com/example/hushmediator/hushmediator/search/JointDomain" (13 : Nat) "com/example/hushmediator/hushmediator/search/JointDomain" "members" "[I").before a0 Z = true := hw _ (List.mem_of_getElem? (i := 20) rfl)
theorem w21 {a0 : Array Value} {Z : State} (hw : Hw a0 Z) : (Jvm.Cond.laysFinal "com/example/hushmediator/hushmediator/search/JointDomain" "com/example/hushmediator/hushmediator/search/JointDomain" "members" "[I").before a0 Z = true := hw _ (List.mem_of_getElem? (i := 21) rfl)
theorem w22 {a0 : Array Value} {Z : State} (hw : Hw a0 Z) : (Jvm.Cond.fieldLink "com/example/hushmediator/hushmediator/search/JointDomain" (18 : Nat) "com/example/hushmediator/hushmediator/search/JointDomain" "sizes" "[I").before a0 Z = true := hw _ (List.mem_of_getElem? (i := 22) rfl)
theorem w23 {a0 : Array Value} {Z : State} (hw : Hw a0 Z) : (Jvm.Cond.laysFinal "com/example/hushmediator/hushmediator/search/JointDomain" "com/example/hushmediator/hushmediator/search/JointDomain" "sizes" "[I").before a0 Z = true := hw _ (List.mem_of_getElem? (i := 23) rfl)
theorem w24 {a0 : Array Value} {Z : State} (hw : Hw a0 Z) : (Jvm.Cond.methodLink "com/example/hushmediator/hushmediator/search/JointDomain" (21 : Nat) ({ cls := "com/example/hushmediator/hushmediator/problem/Problem", name := "combinations", desc := "([I)Ljava/util/OptionalInt;" } : Jvm.MethodName)).before a0 Z = true := hw _ (List.mem_of_getElem? (i := 24) rfl)
theorem w25 {a0 : Array Value} {Z : State} (hw : Hw a0 Z) : (Jvm.Cond.static ({ cls := "com/example/hushmediator/hushmediator/problem/Problem", name := "combinations", desc := "([I)Ljava/util/OptionalInt;" } : Jvm.MethodName)).before a0 Z = true := hw _ (List.mem_of_getElem? (i := 25) rfl)
theorem w26 {a0 : Array Value} {Z : State} (hw : Hw a0 Z) : (Jvm.Cond.initialized "com/example/hushmediator/hushmediator/problem/Problem").before a0 Z = true := hw _ (List.mem_of_getElem? (i := 26) rfl)
theorem w27 {a0 : Array Value} {Z : State} (hw : Hw a0 Z) : (Jvm.Cond.code ({ cls := "com/example/hushmediator/hushmediator/problem/Problem", name := "combinations", desc := "([I)Ljava/util/OptionalInt;" } : Jvm.MethodName) prog_18_method_2_code (7 : Nat) (Option.some (Jvm.ClassFile.FieldType.object "java/util/OptionalInt"))).before a0 Z = true := hw _ (List.mem_of_getElem? (i := 27) rfl)
theorem w28 {a0 : Array Value} {Z : State} (hw : Hw a0 Z) : (Jvm.Cond.constantLong "com/example/hushmediator/hushmediator/problem/Problem" (115 : Nat) (1073741824 : Int64)).before a0 Z = true := hw _ (List.mem_of_getElem? (i := 28) rfl)
theorem w29 {a0 : Array Value} {Z : State} (hw : Hw a0 Z) : (Jvm.Cond.methodLink "com/example/hushmediator/hushmediator/problem/Problem" (123 : Nat) ({ cls := "java/util/OptionalInt", name := "of", desc := "(I)Ljava/util/OptionalInt;" } : Jvm.MethodName)).before a0 Z = true := hw _ (List.mem_of_getElem? (i := 29) rfl)
theorem w30 {a0 : Array Value} {Z : State} (hw : Hw a0 Z) : (Jvm.Cond.static ({ cls := "java/util/OptionalInt", name := "of", desc := "(I)Ljava/util/OptionalInt;" } : Jvm.MethodName)).before a0 Z = true := hw _ (List.mem_of_getElem? (i := 30) rfl)
theorem w31 {a0 : Array Value} {Z : State} (hw : Hw a0 Z) : (Jvm.Cond.initialized "java/util/OptionalInt").before a0 Z = true := hw _ (List.mem_of_getElem? (i := 31) rfl)
theorem w32 {a0 : Array Value} {Z : State} (hw : Hw a0 Z) : (Jvm.Cond.code ({ cls := "java/util/OptionalInt", name := "of", desc := "(I)Ljava/util/OptionalInt;" } : Jvm.MethodName) jdk_2649_method_4_code (1 : Nat) (Option.some (Jvm.ClassFile.FieldType.object "java/util/OptionalInt"))).before a0 Z = true := hw _ (List.mem_of_getElem? (i := 32) rfl)
theorem w33 {a0 : Array Value} {Z : State} (hw : Hw a0 Z) : (Jvm.Cond.classLink "java/util/OptionalInt" (8 : Nat) "java/util/OptionalInt").before a0 Z = true := hw _ (List.mem_of_getElem? (i := 33) rfl)
theorem w34 {a0 : Array Value} {Z : State} (hw : Hw a0 Z) : (Jvm.Cond.instantiable "java/util/OptionalInt" (2 : Nat)).before a0 Z = true := hw _ (List.mem_of_getElem? (i := 34) rfl)
theorem w35 {a0 : Array Value} {Z : State} (hw : Hw a0 Z) : (Jvm.Cond.methodLink "java/util/OptionalInt" (21 : Nat) ({ cls := "java/util/OptionalInt", name := "<init>", desc := "(I)V" } : Jvm.MethodName)).before a0 Z = true := hw _ (List.mem_of_getElem? (i := 35) rfl)
theorem w36 {a0 : Array Value} {Z : State} (hw : Hw a0 Z) : (Jvm.Cond.instanceMethod ({ cls := "java/util/OptionalInt", name := "<init>", desc := "(I)V" } : Jvm.MethodName)).before a0 Z = true := hw _ (List.mem_of_getElem? (i := 36) rfl)
theorem w38 {a0 : Array Value} {Z : State} (hw : Hw a0 Z) : (Jvm.Cond.code ({ cls := "java/util/OptionalInt", name := "<init>", desc := "(I)V" } : Jvm.MethodName) jdk_2649_method_3_code (2 : Nat) (Option.none : Option Jvm.ClassFile.FieldType)).before a0 Z = true := hw _ (List.mem_of_getElem? (i := 38) rfl)
theorem w39 {a0 : Array Value} {Z : State} (hw : Hw a0 Z) : (Jvm.Cond.methodLink "java/util/OptionalInt" (1 : Nat) ({ cls := "java/lang/Object", name := "<init>", desc := "()V" } : Jvm.MethodName)).before a0 Z = true := hw _ (List.mem_of_getElem? (i := 39) rfl)
theorem w40 {a0 : Array Value} {Z : State} (hw : Hw a0 Z) : (Jvm.Cond.fieldLink "java/util/OptionalInt" (7 : Nat) "java/util/OptionalInt" "isPresent" "Z").before a0 Z = true := hw _ (List.mem_of_getElem? (i := 40) rfl)
theorem w41 {a0 : Array Value} {Z : State} (hw : Hw a0 Z) : (Jvm.Cond.laysFinal "java/util/OptionalInt" "java/util/OptionalInt" "isPresent" "Z").before a0 Z = true := hw _ (List.mem_of_getElem? (i := 41) rfl)
theorem w42 {a0 : Array Value} {Z : State} (hw : Hw a0 Z) : (Jvm.Cond.fieldLink "java/util/OptionalInt" (13 : Nat) "java/util/OptionalInt" "value" "I").before a0 Z = true := hw _ (List.mem_of_getElem? (i := 42) rfl)
theorem w43 {a0 : Array Value} {Z : State} (hw : Hw a0 Z) : (Jvm.Cond.laysFinal "java/util/OptionalInt" "java/util/OptionalInt" "value" "I").before a0 Z = true := hw _ (List.mem_of_getElem? (i := 43) rfl)
theorem w44 {a0 : Array Value} {Z : State} (hw : Hw a0 Z) : (Jvm.Cond.lambdaSite ({ cls := "com/example/hushmediator/hushmediator/search/JointDomain", name := "<init>", desc := "([I[I)V" } : Jvm.MethodName) (31 : Nat) (27 : Nat) (Jvm.Lambda.Shape.mk "java/util/function/Supplier" "get" (Jvm.ClassFile.MethodDescriptor.mk ([] : List Jvm.ClassFile.FieldType) (Option.some (Jvm.ClassFile.FieldType.object "java/lang/Object"))) ([] : List Jvm.ClassFile.FieldType) (6 : Nat) "com/example/hushmediator/hushmediator/search/JointDomain" "lambda$new$0" (Jvm.ClassFile.MethodDescriptor.mk ([] : List Jvm.ClassFile.FieldType) (Option.some (Jvm.ClassFile.FieldType.object "java/lang/IllegalArgumentException"))) false (Jvm.ClassFile.MethodDescriptor.mk ([] : List Jvm.ClassFile.FieldType) (Option.some (Jvm.ClassFile.FieldType.object "java/lang/IllegalArgumentException"))))).before a0 Z = true := hw _ (List.mem_of_getElem? (i := 44) rfl)
theorem w47 {a0 : Array Value} {Z : State} (hw : Hw a0 Z) : (Jvm.Cond.methodLink "com/example/hushmediator/hushmediator/search/JointDomain" (31 : Nat) ({ cls := "java/util/OptionalInt", name := "orElseThrow", desc := "(Ljava/util/function/Supplier;)I" } : Jvm.MethodName)).before a0 Z = true := hw _ (List.mem_of_getElem? (i := 47) rfl)
theorem w48 {a0 : Array Value} {Z : State} (hw : Hw a0 Z) : (Jvm.Cond.declares ({ cls := "java/util/OptionalInt", name := "orElseThrow", desc := "(Ljava/util/function/Supplier;)I" } : Jvm.MethodName)).before a0 Z = true := hw _ (List.mem_of_getElem? (i := 48) rfl)
theorem w49 {a0 : Array Value} {Z : State} (hw : Hw a0 Z) : (Jvm.Cond.instanceMethod ({ cls := "java/util/OptionalInt", name := "orElseThrow", desc := "(Ljava/util/function/Supplier;)I" } : Jvm.MethodName)).before a0 Z = true := hw _ (List.mem_of_getElem? (i := 49) rfl)
theorem w50 {a0 : Array Value} {Z : State} (hw : Hw a0 Z) : (Jvm.Cond.selects "java/util/OptionalInt" ({ cls := "java/util/OptionalInt", name := "orElseThrow", desc := "(Ljava/util/function/Supplier;)I" } : Jvm.MethodName) ({ cls := "java/util/OptionalInt", name := "orElseThrow", desc := "(Ljava/util/function/Supplier;)I" } : Jvm.MethodName)).before a0 Z = true := hw _ (List.mem_of_getElem? (i := 50) rfl)
theorem w51 {a0 : Array Value} {Z : State} (hw : Hw a0 Z) : (Jvm.Cond.code ({ cls := "java/util/OptionalInt", name := "orElseThrow", desc := "(Ljava/util/function/Supplier;)I" } : Jvm.MethodName) jdk_2649_method_14_code (2 : Nat) (Option.some Jvm.ClassFile.FieldType.int)).before a0 Z = true := hw _ (List.mem_of_getElem? (i := 51) rfl)
theorem w52 {a0 : Array Value} {Z : State} (hw : Hw a0 Z) : (Jvm.Cond.fieldLink "com/example/hushmediator/hushmediator/search/JointDomain" (37 : Nat) "com/example/hushmediator/hushmediator/search/JointDomain" "size" "I").before a0 Z = true := hw _ (List.mem_of_getElem? (i := 52) rfl)
theorem w53 {a0 : Array Value} {Z : State} (hw : Hw a0 Z) : (Jvm.Cond.laysFinal "com/example/hushmediator/hushmediator/search/JointDomain" "com/example/hushmediator/hushmediator/search/JointDomain" "size" "I").before a0 Z = true := hw _ (List.mem_of_getElem? (i := 53) rfl)
theorem w54 {a0 : Array Value} {Z : State} (hw : Hw a0 Z) : (Jvm.Cond.methodLink "com/example/hushmediator/hushmediator/search/JointDomainAdvancePinLaw" (13 : Nat) ({ cls := "com/example/hushmediator/hushmediator/search/JointDomain", name := "advance", desc := "([I)Z" } : Jvm.MethodName)).before a0 Z = true := hw _ (List.mem_of_getElem? (i := 54) rfl)
theorem w55 {a0 : Array Value} {Z : State} (hw : Hw a0 Z) : (Jvm.Cond.declares ({ cls := "com/example/hushmediator/hushmediator/search/JointDomain", name := "advance", desc := "([I)Z" } : Jvm.MethodName)).before a0 Z = true := hw _ (List.mem_of_getElem? (i := 55) rfl)
theorem w56 {a0 : Array Value} {Z : State} (hw : Hw a0 Z) : (Jvm.Cond.instanceMethod ({ cls := "com/example/hushmediator/hushmediator/search/JointDomain", name := "advance", desc := "([I)Z" } : Jvm.MethodName)).before a0 Z = true := hw _ (List.mem_of_getElem? (i := 56) rfl)
theorem w57 {a0 : Array Value} {Z : State} (hw : Hw a0 Z) : (Jvm.Cond.selects "com/example/hushmediator/hushmediator/search/JointDomain" ({ cls := "com/example/hushmediator/hushmediator/search/JointDomain", name := "advance", desc := "([I)Z" } : Jvm.MethodName) ({ cls := "com/example/hushmediator/hushmediator/search/JointDomain", name := "advance", desc := "([I)Z" } : Jvm.MethodName)).before a0 Z = true := hw _ (List.mem_of_getElem? (i := 57) rfl)
theorem w58 {a0 : Array Value} {Z : State} (hw : Hw a0 Z) : (Jvm.Cond.code ({ cls := "com/example/hushmediator/hushmediator/search/JointDomain", name := "advance", desc := "([I)Z" } : Jvm.MethodName) prog_54_method_4_code (3 : Nat) (Option.some Jvm.ClassFile.FieldType.boolean)).before a0 Z = true := hw _ (List.mem_of_getElem? (i := 58) rfl)
theorem pd0 : parseMethodDescriptor "(I)V" = some ⟨[.int], none⟩ := by decide +kernel
theorem pd1 : parseMethodDescriptor "(I)Ljava/util/OptionalInt;" = some ⟨[.int], some (.object "java/util/OptionalInt")⟩ := by decide +kernel
theorem pd2 : parseMethodDescriptor "([I)Ljava/util/OptionalInt;" = some ⟨[(.array .int)], some (.object "java/util/OptionalInt")⟩ := by decide +kernel
theorem pd3 : parseMethodDescriptor "(Ljava/util/function/Supplier;)I" = some ⟨[(.object "java/util/function/Supplier")], some .int⟩ := by decide +kernel
theorem pd4 : parseMethodDescriptor "([I[I)V" = some ⟨[(.array .int), (.array .int)], none⟩ := by decide +kernel
theorem pd5 : parseMethodDescriptor "([I)Z" = some ⟨[(.array .int)], some .boolean⟩ := by decide +kernel
abbrev K0 : Mt := (x, code, maxLocals, ret, room_1)
def K1 : Mt := (⟨"com/example/hushmediator/hushmediator/search/JointDomain", "<init>", "([I[I)V"⟩, prog_54_method_1_code, 3, none, ⟨4, 3, 8, 3100⟩)
def K3 : Mt := (⟨"com/example/hushmediator/hushmediator/problem/Problem", "combinations", "([I)Ljava/util/OptionalInt;"⟩, prog_18_method_2_code, 7, some (.object "java/util/OptionalInt"), ⟨3, 1, 2, 60⟩)
def K4 : Mt := (⟨"java/util/OptionalInt", "of", "(I)Ljava/util/OptionalInt;"⟩, jdk_2649_method_4_code, 1, some (.object "java/util/OptionalInt"), ⟨2, 1, 2, 40⟩)
def K5 : Mt := (⟨"java/util/OptionalInt", "<init>", "(I)V"⟩, jdk_2649_method_3_code, 2, none, ⟨1, 0, 0, 12⟩)
def K6 : Mt := (⟨"java/util/OptionalInt", "orElseThrow", "(Ljava/util/function/Supplier;)I"⟩, jdk_2649_method_14_code, 2, some .int, ⟨0, 0, 0, 0⟩)
def K7 : Mt := (⟨"com/example/hushmediator/hushmediator/search/JointDomain", "advance", "([I)Z"⟩, prog_54_method_4_code, 3, some .boolean, ⟨0, 0, 0, 0⟩)
theorem d0_0 : decode K0.bytes 0 = .ok (.iload_n 0, 1) := at_0
theorem d0_1 : decode K0.bytes 1 = .ok (.bipush 15, 2) := at_1
theorem d0_3 : decode K0.bytes 3 = .ok (.iand, 1) := at_3
theorem d0_4 : decode K0.bytes 4 = .ok (.iconst 1, 1) := at_4
theorem d0_5 : decode K0.bytes 5 = .ok (.iadd, 1) := at_5
theorem d0_6 : decode K0.bytes 6 = .ok (.istore 6, 2) := at_6
theorem d0_8 : decode K0.bytes 8 = .ok (.iload_n 1, 1) := at_8
theorem d0_9 : decode K0.bytes 9 = .ok (.bipush 15, 2) := at_9
theorem d0_11 : decode K0.bytes 11 = .ok (.iand, 1) := at_11
theorem d0_12 : decode K0.bytes 12 = .ok (.iconst 1, 1) := at_12
theorem d0_13 : decode K0.bytes 13 = .ok (.iadd, 1) := at_13
theorem d0_14 : decode K0.bytes 14 = .ok (.istore 7, 2) := at_14
theorem d0_16 : decode K0.bytes 16 = .ok (.iload_n 2, 1) := at_16
theorem d0_17 : decode K0.bytes 17 = .ok (.bipush 15, 2) := at_17
theorem d0_19 : decode K0.bytes 19 = .ok (.iand, 1) := at_19
theorem d0_20 : decode K0.bytes 20 = .ok (.iconst 1, 1) := at_20
theorem d0_21 : decode K0.bytes 21 = .ok (.iadd, 1) := at_21
theorem d0_22 : decode K0.bytes 22 = .ok (.istore 8, 2) := at_22
theorem d0_24 : decode K0.bytes 24 = .ok (.iload_n 3, 1) := at_24
theorem d0_25 : decode K0.bytes 25 = .ok (.ldc 7, 2) := at_25
theorem d0_27 : decode K0.bytes 27 = .ok (.iand, 1) := at_27
theorem d0_28 : decode K0.bytes 28 = .ok (.iload 6, 2) := at_28
theorem d0_30 : decode K0.bytes 30 = .ok (.irem, 1) := at_30
theorem d0_31 : decode K0.bytes 31 = .ok (.istore 9, 2) := at_31
theorem d0_33 : decode K0.bytes 33 = .ok (.iload 4, 2) := at_33
theorem d0_35 : decode K0.bytes 35 = .ok (.ldc 7, 2) := at_35
theorem d0_37 : decode K0.bytes 37 = .ok (.iand, 1) := at_37
theorem d0_38 : decode K0.bytes 38 = .ok (.iload 7, 2) := at_38
theorem d0_40 : decode K0.bytes 40 = .ok (.irem, 1) := at_40
theorem d0_41 : decode K0.bytes 41 = .ok (.istore 10, 2) := at_41
theorem d0_43 : decode K0.bytes 43 = .ok (.iload 5, 2) := at_43
theorem d0_45 : decode K0.bytes 45 = .ok (.ldc 7, 2) := at_45
theorem d0_47 : decode K0.bytes 47 = .ok (.iand, 1) := at_47
theorem d0_48 : decode K0.bytes 48 = .ok (.iload 8, 2) := at_48
theorem d0_50 : decode K0.bytes 50 = .ok (.irem, 1) := at_50
theorem d0_51 : decode K0.bytes 51 = .ok (.istore 11, 2) := at_51
theorem d0_53 : decode K0.bytes 53 = .ok (.iconst 3, 1) := at_53
theorem d0_54 : decode K0.bytes 54 = .ok (.newarray .int, 2) := at_54
theorem d0_56 : decode K0.bytes 56 = .ok (.dup, 1) := at_56
theorem d0_57 : decode K0.bytes 57 = .ok (.iconst 0, 1) := at_57
theorem d0_58 : decode K0.bytes 58 = .ok (.iconst 0, 1) := at_58
theorem d0_59 : decode K0.bytes 59 = .ok (.iastore, 1) := at_59
theorem d0_60 : decode K0.bytes 60 = .ok (.dup, 1) := at_60
theorem d0_61 : decode K0.bytes 61 = .ok (.iconst 1, 1) := at_61
theorem d0_62 : decode K0.bytes 62 = .ok (.iconst 1, 1) := at_62
theorem d0_63 : decode K0.bytes 63 = .ok (.iastore, 1) := at_63
theorem d0_64 : decode K0.bytes 64 = .ok (.dup, 1) := at_64
theorem d0_65 : decode K0.bytes 65 = .ok (.iconst 2, 1) := at_65
theorem d0_66 : decode K0.bytes 66 = .ok (.iconst 2, 1) := at_66
theorem d0_67 : decode K0.bytes 67 = .ok (.iastore, 1) := at_67
theorem d0_68 : decode K0.bytes 68 = .ok (.astore 12, 2) := at_68
theorem d0_70 : decode K0.bytes 70 = .ok (.iconst 3, 1) := at_70
theorem d0_71 : decode K0.bytes 71 = .ok (.newarray .int, 2) := at_71
theorem d0_73 : decode K0.bytes 73 = .ok (.dup, 1) := at_73
theorem d0_74 : decode K0.bytes 74 = .ok (.iconst 0, 1) := at_74
theorem d0_75 : decode K0.bytes 75 = .ok (.iload 6, 2) := at_75
theorem d0_77 : decode K0.bytes 77 = .ok (.iastore, 1) := at_77
theorem d0_78 : decode K0.bytes 78 = .ok (.dup, 1) := at_78
theorem d0_79 : decode K0.bytes 79 = .ok (.iconst 1, 1) := at_79
theorem d0_80 : decode K0.bytes 80 = .ok (.iload 7, 2) := at_80
theorem d0_82 : decode K0.bytes 82 = .ok (.iastore, 1) := at_82
theorem d0_83 : decode K0.bytes 83 = .ok (.dup, 1) := at_83
theorem d0_84 : decode K0.bytes 84 = .ok (.iconst 2, 1) := at_84
theorem d0_85 : decode K0.bytes 85 = .ok (.iload 8, 2) := at_85
theorem d0_87 : decode K0.bytes 87 = .ok (.iastore, 1) := at_87
theorem d0_88 : decode K0.bytes 88 = .ok (.astore 13, 2) := at_88
theorem d0_90 : decode K0.bytes 90 = .ok (.iconst 3, 1) := at_90
theorem d0_91 : decode K0.bytes 91 = .ok (.newarray .int, 2) := at_91
theorem d0_93 : decode K0.bytes 93 = .ok (.dup, 1) := at_93
theorem d0_94 : decode K0.bytes 94 = .ok (.iconst 0, 1) := at_94
theorem d0_95 : decode K0.bytes 95 = .ok (.iload 9, 2) := at_95
theorem d0_97 : decode K0.bytes 97 = .ok (.iastore, 1) := at_97
theorem d0_98 : decode K0.bytes 98 = .ok (.dup, 1) := at_98
theorem d0_99 : decode K0.bytes 99 = .ok (.iconst 1, 1) := at_99
theorem d0_100 : decode K0.bytes 100 = .ok (.iload 10, 2) := at_100
theorem d0_102 : decode K0.bytes 102 = .ok (.iastore, 1) := at_102
theorem d0_103 : decode K0.bytes 103 = .ok (.dup, 1) := at_103
theorem d0_104 : decode K0.bytes 104 = .ok (.iconst 2, 1) := at_104
theorem d0_105 : decode K0.bytes 105 = .ok (.iload 11, 2) := at_105
theorem d0_107 : decode K0.bytes 107 = .ok (.iastore, 1) := at_107
theorem d0_108 : decode K0.bytes 108 = .ok (.astore 14, 2) := at_108
theorem d0_110 : decode K0.bytes 110 = .ok (.new 8, 3) := at_110
theorem d0_113 : decode K0.bytes 113 = .ok (.dup, 1) := at_113
theorem d0_114 : decode K0.bytes 114 = .ok (.aload 12, 2) := at_114
theorem d0_116 : decode K0.bytes 116 = .ok (.aload 13, 2) := at_116
theorem d0_118 : decode K0.bytes 118 = .ok (.invokespecial 10, 3) := at_118
theorem d0_121 : decode K0.bytes 121 = .ok (.astore 15, 2) := at_121
theorem d0_123 : decode K0.bytes 123 = .ok (.aload 15, 2) := at_123
theorem d0_125 : decode K0.bytes 125 = .ok (.aload 14, 2) := at_125
theorem d0_127 : decode K0.bytes 127 = .ok (.invokevirtual 13, 3) := at_127
theorem d0_130 : decode K0.bytes 130 = .ok (.istore 16, 2) := at_130
theorem d0_132 : decode K0.bytes 132 = .ok (.iload 11, 2) := at_132
theorem d0_134 : decode K0.bytes 134 = .ok (.iconst 1, 1) := at_134
theorem d0_135 : decode K0.bytes 135 = .ok (.iadd, 1) := at_135
theorem d0_136 : decode K0.bytes 136 = .ok (.iload 8, 2) := at_136
theorem d0_138 : decode K0.bytes 138 = .ok (.if_icmp .ge 23, 3) := at_138
theorem d0_141 : decode K0.bytes 141 = .ok (.iload 9, 2) := at_141
theorem d0_143 : decode K0.bytes 143 = .ok (.istore 17, 2) := at_143
theorem d0_145 : decode K0.bytes 145 = .ok (.iload 10, 2) := at_145
theorem d0_147 : decode K0.bytes 147 = .ok (.istore 18, 2) := at_147
theorem d0_149 : decode K0.bytes 149 = .ok (.iload 11, 2) := at_149
theorem d0_151 : decode K0.bytes 151 = .ok (.iconst 1, 1) := at_151
theorem d0_152 : decode K0.bytes 152 = .ok (.iadd, 1) := at_152
theorem d0_153 : decode K0.bytes 153 = .ok (.istore 19, 2) := at_153
theorem d0_155 : decode K0.bytes 155 = .ok (.iconst 1, 1) := at_155
theorem d0_156 : decode K0.bytes 156 = .ok (.istore 20, 2) := at_156
theorem d0_158 : decode K0.bytes 158 = .ok (.goto 70, 3) := at_158
theorem d0_161 : decode K0.bytes 161 = .ok (.iload 10, 2) := at_161
theorem d0_163 : decode K0.bytes 163 = .ok (.iconst 1, 1) := at_163
theorem d0_164 : decode K0.bytes 164 = .ok (.iadd, 1) := at_164
theorem d0_165 : decode K0.bytes 165 = .ok (.iload 7, 2) := at_165
theorem d0_167 : decode K0.bytes 167 = .ok (.if_icmp .ge 22, 3) := at_167
theorem d0_170 : decode K0.bytes 170 = .ok (.iload 9, 2) := at_170
theorem d0_172 : decode K0.bytes 172 = .ok (.istore 17, 2) := at_172
theorem d0_174 : decode K0.bytes 174 = .ok (.iload 10, 2) := at_174
theorem d0_176 : decode K0.bytes 176 = .ok (.iconst 1, 1) := at_176
theorem d0_177 : decode K0.bytes 177 = .ok (.iadd, 1) := at_177
theorem d0_178 : decode K0.bytes 178 = .ok (.istore 18, 2) := at_178
theorem d0_180 : decode K0.bytes 180 = .ok (.iconst 0, 1) := at_180
theorem d0_181 : decode K0.bytes 181 = .ok (.istore 19, 2) := at_181
theorem d0_183 : decode K0.bytes 183 = .ok (.iconst 1, 1) := at_183
theorem d0_184 : decode K0.bytes 184 = .ok (.istore 20, 2) := at_184
theorem d0_186 : decode K0.bytes 186 = .ok (.goto 42, 3) := at_186
theorem d0_189 : decode K0.bytes 189 = .ok (.iload 9, 2) := at_189
theorem d0_191 : decode K0.bytes 191 = .ok (.iconst 1, 1) := at_191
theorem d0_192 : decode K0.bytes 192 = .ok (.iadd, 1) := at_192
theorem d0_193 : decode K0.bytes 193 = .ok (.iload 6, 2) := at_193
theorem d0_195 : decode K0.bytes 195 = .ok (.if_icmp .ge 21, 3) := at_195
theorem d0_198 : decode K0.bytes 198 = .ok (.iload 9, 2) := at_198
theorem d0_200 : decode K0.bytes 200 = .ok (.iconst 1, 1) := at_200
theorem d0_201 : decode K0.bytes 201 = .ok (.iadd, 1) := at_201
theorem d0_202 : decode K0.bytes 202 = .ok (.istore 17, 2) := at_202
theorem d0_204 : decode K0.bytes 204 = .ok (.iconst 0, 1) := at_204
theorem d0_205 : decode K0.bytes 205 = .ok (.istore 18, 2) := at_205
theorem d0_207 : decode K0.bytes 207 = .ok (.iconst 0, 1) := at_207
theorem d0_208 : decode K0.bytes 208 = .ok (.istore 19, 2) := at_208
theorem d0_210 : decode K0.bytes 210 = .ok (.iconst 1, 1) := at_210
theorem d0_211 : decode K0.bytes 211 = .ok (.istore 20, 2) := at_211
theorem d0_213 : decode K0.bytes 213 = .ok (.goto 15, 3) := at_213
theorem d0_216 : decode K0.bytes 216 = .ok (.iconst 0, 1) := at_216
theorem d0_217 : decode K0.bytes 217 = .ok (.istore 17, 2) := at_217
theorem d0_219 : decode K0.bytes 219 = .ok (.iconst 0, 1) := at_219
theorem d0_220 : decode K0.bytes 220 = .ok (.istore 18, 2) := at_220
theorem d0_222 : decode K0.bytes 222 = .ok (.iconst 0, 1) := at_222
theorem d0_223 : decode K0.bytes 223 = .ok (.istore 19, 2) := at_223
theorem d0_225 : decode K0.bytes 225 = .ok (.iconst 0, 1) := at_225
theorem d0_226 : decode K0.bytes 226 = .ok (.istore 20, 2) := at_226
theorem d0_228 : decode K0.bytes 228 = .ok (.iload 16, 2) := at_228
theorem d0_230 : decode K0.bytes 230 = .ok (.iload 20, 2) := at_230
theorem d0_232 : decode K0.bytes 232 = .ok (.if_icmp .ne 41, 3) := at_232
theorem d0_235 : decode K0.bytes 235 = .ok (.aload 14, 2) := at_235
theorem d0_237 : decode K0.bytes 237 = .ok (.arraylength, 1) := at_237
theorem d0_238 : decode K0.bytes 238 = .ok (.iconst 3, 1) := at_238
theorem d0_239 : decode K0.bytes 239 = .ok (.if_icmp .ne 34, 3) := at_239
theorem d0_242 : decode K0.bytes 242 = .ok (.aload 14, 2) := at_242
theorem d0_244 : decode K0.bytes 244 = .ok (.iconst 0, 1) := at_244
theorem d0_245 : decode K0.bytes 245 = .ok (.iaload, 1) := at_245
theorem d0_246 : decode K0.bytes 246 = .ok (.iload 17, 2) := at_246
theorem d0_248 : decode K0.bytes 248 = .ok (.if_icmp .ne 25, 3) := at_248
theorem d0_251 : decode K0.bytes 251 = .ok (.aload 14, 2) := at_251
theorem d0_253 : decode K0.bytes 253 = .ok (.iconst 1, 1) := at_253
theorem d0_254 : decode K0.bytes 254 = .ok (.iaload, 1) := at_254
theorem d0_255 : decode K0.bytes 255 = .ok (.iload 18, 2) := at_255
theorem d0_257 : decode K0.bytes 257 = .ok (.if_icmp .ne 16, 3) := at_257
theorem d0_260 : decode K0.bytes 260 = .ok (.aload 14, 2) := at_260
theorem d0_262 : decode K0.bytes 262 = .ok (.iconst 2, 1) := at_262
theorem d0_263 : decode K0.bytes 263 = .ok (.iaload, 1) := at_263
theorem d0_264 : decode K0.bytes 264 = .ok (.iload 19, 2) := at_264
theorem d0_266 : decode K0.bytes 266 = .ok (.if_icmp .ne 7, 3) := at_266
theorem d0_269 : decode K0.bytes 269 = .ok (.iconst 1, 1) := at_269
theorem d0_270 : decode K0.bytes 270 = .ok (.goto 4, 3) := at_270
theorem d0_274 : decode K0.bytes 274 = .ok (.ireturn, 1) := at_274
theorem d1_0 : decode K1.bytes 0 = .ok (.aload_n 0, 1) := by decide +kernel
theorem d1_1 : decode K1.bytes 1 = .ok (.invokespecial 1, 3) := by decide +kernel
theorem d1_4 : decode K1.bytes 4 = .ok (.aload_n 0, 1) := by decide +kernel
theorem d1_5 : decode K1.bytes 5 = .ok (.aload_n 1, 1) := by decide +kernel
theorem d1_6 : decode K1.bytes 6 = .ok (.invokevirtual 7, 3) := by decide +kernel
theorem d1_9 : decode K1.bytes 9 = .ok (.checkcast 8, 3) := by decide +kernel
theorem d1_12 : decode K1.bytes 12 = .ok (.putfield 13, 3) := by decide +kernel
theorem d1_15 : decode K1.bytes 15 = .ok (.aload_n 0, 1) := by decide +kernel
theorem d1_16 : decode K1.bytes 16 = .ok (.aload_n 2, 1) := by decide +kernel
theorem d1_17 : decode K1.bytes 17 = .ok (.invokevirtual 7, 3) := by decide +kernel
theorem d1_20 : decode K1.bytes 20 = .ok (.checkcast 8, 3) := by decide +kernel
theorem d1_23 : decode K1.bytes 23 = .ok (.putfield 18, 3) := by decide +kernel
theorem d1_26 : decode K1.bytes 26 = .ok (.aload_n 0, 1) := by decide +kernel
theorem d1_27 : decode K1.bytes 27 = .ok (.aload_n 2, 1) := by decide +kernel
theorem d1_28 : decode K1.bytes 28 = .ok (.invokestatic 21, 3) := by decide +kernel
theorem d1_31 : decode K1.bytes 31 = .ok (.invokedynamic 27, 5) := by decide +kernel
theorem d1_36 : decode K1.bytes 36 = .ok (.invokevirtual 31, 3) := by decide +kernel
theorem d1_39 : decode K1.bytes 39 = .ok (.putfield 37, 3) := by decide +kernel
theorem d1_42 : decode K1.bytes 42 = .ok (.return_, 1) := by decide +kernel
theorem d3_0 : decode K3.bytes 0 = .ok (.lconst 1, 1) := by decide +kernel
theorem d3_1 : decode K3.bytes 1 = .ok (.lstore_n 1, 1) := by decide +kernel
theorem d3_2 : decode K3.bytes 2 = .ok (.aload_n 0, 1) := by decide +kernel
theorem d3_3 : decode K3.bytes 3 = .ok (.astore_n 3, 1) := by decide +kernel
theorem d3_4 : decode K3.bytes 4 = .ok (.aload_n 3, 1) := by decide +kernel
theorem d3_5 : decode K3.bytes 5 = .ok (.arraylength, 1) := by decide +kernel
theorem d3_6 : decode K3.bytes 6 = .ok (.istore 4, 2) := by decide +kernel
theorem d3_8 : decode K3.bytes 8 = .ok (.iconst 0, 1) := by decide +kernel
theorem d3_9 : decode K3.bytes 9 = .ok (.istore 5, 2) := by decide +kernel
theorem d3_11 : decode K3.bytes 11 = .ok (.iload 5, 2) := by decide +kernel
theorem d3_13 : decode K3.bytes 13 = .ok (.iload 4, 2) := by decide +kernel
theorem d3_15 : decode K3.bytes 15 = .ok (.if_icmp .ge 33, 3) := by decide +kernel
theorem d3_18 : decode K3.bytes 18 = .ok (.aload_n 3, 1) := by decide +kernel
theorem d3_19 : decode K3.bytes 19 = .ok (.iload 5, 2) := by decide +kernel
theorem d3_21 : decode K3.bytes 21 = .ok (.iaload, 1) := by decide +kernel
theorem d3_22 : decode K3.bytes 22 = .ok (.istore 6, 2) := by decide +kernel
theorem d3_24 : decode K3.bytes 24 = .ok (.lload_n 1, 1) := by decide +kernel
theorem d3_25 : decode K3.bytes 25 = .ok (.iload 6, 2) := by decide +kernel
theorem d3_27 : decode K3.bytes 27 = .ok (.i2l, 1) := by decide +kernel
theorem d3_28 : decode K3.bytes 28 = .ok (.lmul, 1) := by decide +kernel
theorem d3_29 : decode K3.bytes 29 = .ok (.lstore_n 1, 1) := by decide +kernel
theorem d3_30 : decode K3.bytes 30 = .ok (.lload_n 1, 1) := by decide +kernel
theorem d3_31 : decode K3.bytes 31 = .ok (.ldc2_w 115, 3) := by decide +kernel
theorem d3_34 : decode K3.bytes 34 = .ok (.lcmp, 1) := by decide +kernel
theorem d3_35 : decode K3.bytes 35 = .ok (.ifCond .le 7, 3) := by decide +kernel
theorem d3_42 : decode K3.bytes 42 = .ok (.iinc 5 1, 3) := by decide +kernel
theorem d3_45 : decode K3.bytes 45 = .ok (.goto (-34), 3) := by decide +kernel
theorem d3_48 : decode K3.bytes 48 = .ok (.lload_n 1, 1) := by decide +kernel
theorem d3_49 : decode K3.bytes 49 = .ok (.l2i, 1) := by decide +kernel
theorem d3_50 : decode K3.bytes 50 = .ok (.invokestatic 123, 3) := by decide +kernel
theorem d3_53 : decode K3.bytes 53 = .ok (.areturn, 1) := by decide +kernel
theorem d4_0 : decode K4.bytes 0 = .ok (.new 8, 3) := by decide +kernel
theorem d4_3 : decode K4.bytes 3 = .ok (.dup, 1) := by decide +kernel
theorem d4_4 : decode K4.bytes 4 = .ok (.iload_n 0, 1) := by decide +kernel
theorem d4_5 : decode K4.bytes 5 = .ok (.invokespecial 21, 3) := by decide +kernel
theorem d4_8 : decode K4.bytes 8 = .ok (.areturn, 1) := by decide +kernel
theorem d5_0 : decode K5.bytes 0 = .ok (.aload_n 0, 1) := by decide +kernel
theorem d5_1 : decode K5.bytes 1 = .ok (.invokespecial 1, 3) := by decide +kernel
theorem d5_4 : decode K5.bytes 4 = .ok (.aload_n 0, 1) := by decide +kernel
theorem d5_5 : decode K5.bytes 5 = .ok (.iconst 1, 1) := by decide +kernel
theorem d5_6 : decode K5.bytes 6 = .ok (.putfield 7, 3) := by decide +kernel
theorem d5_9 : decode K5.bytes 9 = .ok (.aload_n 0, 1) := by decide +kernel
theorem d5_10 : decode K5.bytes 10 = .ok (.iload_n 1, 1) := by decide +kernel
theorem d5_11 : decode K5.bytes 11 = .ok (.putfield 13, 3) := by decide +kernel
theorem d5_14 : decode K5.bytes 14 = .ok (.return_, 1) := by decide +kernel
theorem d6_0 : decode K6.bytes 0 = .ok (.aload_n 0, 1) := by decide +kernel
theorem d6_1 : decode K6.bytes 1 = .ok (.getfield 7, 3) := by decide +kernel
theorem d6_4 : decode K6.bytes 4 = .ok (.ifCond .eq 8, 3) := by decide +kernel
theorem d6_7 : decode K6.bytes 7 = .ok (.aload_n 0, 1) := by decide +kernel
theorem d6_8 : decode K6.bytes 8 = .ok (.getfield 13, 3) := by decide +kernel
theorem d6_11 : decode K6.bytes 11 = .ok (.ireturn, 1) := by decide +kernel
theorem d7_0 : decode K7.bytes 0 = .ok (.aload_n 1, 1) := by decide +kernel
theorem d7_1 : decode K7.bytes 1 = .ok (.arraylength, 1) := by decide +kernel
theorem d7_2 : decode K7.bytes 2 = .ok (.iconst 1, 1) := by decide +kernel
theorem d7_3 : decode K7.bytes 3 = .ok (.isub, 1) := by decide +kernel
theorem d7_4 : decode K7.bytes 4 = .ok (.istore_n 2, 1) := by decide +kernel
theorem d7_5 : decode K7.bytes 5 = .ok (.iload_n 2, 1) := by decide +kernel
theorem d7_6 : decode K7.bytes 6 = .ok (.ifCond .lt 32, 3) := by decide +kernel
theorem d7_9 : decode K7.bytes 9 = .ok (.aload_n 1, 1) := by decide +kernel
theorem d7_10 : decode K7.bytes 10 = .ok (.iload_n 2, 1) := by decide +kernel
theorem d7_11 : decode K7.bytes 11 = .ok (.dup2, 1) := by decide +kernel
theorem d7_12 : decode K7.bytes 12 = .ok (.iaload, 1) := by decide +kernel
theorem d7_13 : decode K7.bytes 13 = .ok (.iconst 1, 1) := by decide +kernel
theorem d7_14 : decode K7.bytes 14 = .ok (.iadd, 1) := by decide +kernel
theorem d7_15 : decode K7.bytes 15 = .ok (.dup_x2, 1) := by decide +kernel
theorem d7_16 : decode K7.bytes 16 = .ok (.iastore, 1) := by decide +kernel
theorem d7_17 : decode K7.bytes 17 = .ok (.aload_n 0, 1) := by decide +kernel
theorem d7_18 : decode K7.bytes 18 = .ok (.getfield 18, 3) := by decide +kernel
theorem d7_21 : decode K7.bytes 21 = .ok (.iload_n 2, 1) := by decide +kernel
theorem d7_22 : decode K7.bytes 22 = .ok (.iaload, 1) := by decide +kernel
theorem d7_23 : decode K7.bytes 23 = .ok (.if_icmp .ge 5, 3) := by decide +kernel
theorem d7_26 : decode K7.bytes 26 = .ok (.iconst 1, 1) := by decide +kernel
theorem d7_27 : decode K7.bytes 27 = .ok (.ireturn, 1) := by decide +kernel
theorem d7_28 : decode K7.bytes 28 = .ok (.aload_n 1, 1) := by decide +kernel
theorem d7_29 : decode K7.bytes 29 = .ok (.iload_n 2, 1) := by decide +kernel
theorem d7_30 : decode K7.bytes 30 = .ok (.iconst 0, 1) := by decide +kernel
theorem d7_31 : decode K7.bytes 31 = .ok (.iastore, 1) := by decide +kernel
theorem d7_32 : decode K7.bytes 32 = .ok (.iinc 2 (-1), 3) := by decide +kernel
theorem d7_35 : decode K7.bytes 35 = .ok (.goto (-30), 3) := by decide +kernel
theorem d7_38 : decode K7.bytes 38 = .ok (.iconst 0, 1) := by decide +kernel
theorem d7_39 : decode K7.bytes 39 = .ok (.ireturn, 1) := by decide +kernel
def own_g (s0 s1 s2 : Int32) (i : Nat) : Int32 := if i = 0 then s0 else if i = 1 then s1 else s2
def own_adv (j0 j1 j2 s0 s1 s2 : Int32) : Int32 × Int32 × Int32 × Int32 := if j2 + 1 < s2 then (1, j0, j1, j2 + 1) else if j1 + 1 < s1 then (1, j0, j1 + 1, 0) else if j0 + 1 < s0 then (1, j0 + 1, 0, 0) else (0, 0, 0, 0)
set_option maxRecDepth 65536 in
set_option maxHeartbeats 4000000 in
theorem rm5 (l : Launch) (Z : State) (a0 : Array Value) (hw : Hw a0 Z) (a : Addr) (x : Int32)  (h0 : Heap) (n0 : Nat) (Z0 : n0 ≤ h0.size) (Ea : Exa Z h0 a "java/util/OptionalInt") (F0 : Fld Z h0 a "java/util/OptionalInt" "isPresent" "Z" (.int 0)) (F1 : Fld Z h0 a "java/util/OptionalInt" "value" "I" (.int 0)) (ga : n0 ≤ a) :
    Ct l Z K5 #[(.ref a), (.int x)] h0 n0 (fun v h => v = none ∧ Keep h0 h [a] ∧ Fld Z h a "java/util/OptionalInt" "isPresent" "Z" (.int 1) ∧ Fld Z h a "java/util/OptionalInt" "value" "I" (.int x)) := by
  refine Ct.of (Ls := #[.val (.ref a), .val (.int x)]) (plainFor_of_name (by first | decide +kernel | (simp [plainName, overriddenIn]; done))) (fun m => by first | rfl | (simp [entryFrame, mkF, argsToLocals, Value.category]; done)) ?_
  intro E T W
  refine go_aloadN (pc' := 1) W d5_0 rfl rfl rfl ?_
  refine go_initO (pc' := 4) W (w39 hw) (w9 hw) (w10 hw) d5_1 rfl (nb rfl) (nb rfl) rfl ?_
  intro T1 W1
  refine go_aloadN (pc' := 5) W1 d5_4 rfl rfl rfl ?_
  refine go_iconst (pc' := 6) (z := 1) W1 d5_5 rfl rfl ?_
  refine go_putF (pc' := 9) W1 (host := "") (Or.inl (w40 hw)) Via.refl F0 Ea (Or.inr ⟨(w41 hw), rfl, rfl⟩) (w34 hw) (ty := .boolean) (by decide) rfl rfl ga d5_6 rfl ?_
  intro T2 h2 W2 R2
  have f3 := Ea.wr R2
  have f4 := F0.same R2
  have f5 := F1.other R2 (Or.inr (slot_ne (Or.inr (w43 hw)) (Or.inr (w41 hw)) (by decide) (t := .int) (t' := .boolean) (by decide) (by decide)))
  have k6 := (Keep.refl h0 [a]).wr R2 (Or.inl (by simp))
  have z7 := Nat.le_trans Z0 (Keep.of_wr R2).1
  refine go_aloadN (pc' := 10) W2 d5_9 rfl rfl rfl ?_
  refine go_iloadN (pc' := 11) W2 d5_10 rfl rfl ?_
  refine go_putF (pc' := 14) W2 (host := "") (Or.inl (w42 hw)) Via.refl f5 f3 (Or.inr ⟨(w43 hw), rfl, rfl⟩) (w34 hw) (ty := .int) (by decide) rfl rfl ga d5_11 rfl ?_
  intro T8 h8 W8 R8
  have f9 := f3.wr R8
  have f10 := f4.other R8 (Or.inr (slot_ne (Or.inr (w41 hw)) (Or.inr (w43 hw)) (by decide) (t := .boolean) (t' := .int) (by decide) (by decide)))
  have f11 := f5.same R8
  have k12 := k6.wr R8 (Or.inl (by simp))
  have z13 := Nat.le_trans z7 (Keep.of_wr R8).1
  exact go_retV W8 rfl d5_14 (nb rfl) (nb rfl) (⟨rfl, k12, f10, f11⟩)
set_option maxRecDepth 65536 in
set_option maxHeartbeats 4000000 in
theorem rm4 (l : Launch) (Z : State) (a0 : Array Value) (hw : Hw a0 Z) (x : Int32)  (h0 : Heap) (n0 : Nat) (Z0 : n0 ≤ h0.size)  :
    Ct l Z K4 #[(.int x)] h0 n0 (fun v h => ∃ o : Addr, v = some (.ref o) ∧ n0 ≤ o ∧ h0.size ≤ o ∧ Keep h0 h [] ∧ Exa Z h o "java/util/OptionalInt" ∧ Fld Z h o "java/util/OptionalInt" "isPresent" "Z" (.int 1) ∧ Fld Z h o "java/util/OptionalInt" "value" "I" (.int x)) := by
  refine Ct.of (Ls := #[.val (.int x)]) (plainFor_of_name (by first | decide +kernel | (simp [plainName, overriddenIn]; done))) (fun m => by first | rfl | (simp [entryFrame, mkF, argsToLocals, Value.category]; done)) ?_
  intro E T W
  refine go_new (pc' := 3) W (w33 hw) (w34 hw) (w31 hw) d4_0 (nb rfl) (nb rfl) rfl ?_
  intro T14 h14 b14 g14 W14 E14 A14 D14 M14
  have ge15 : n0 ≤ b14 := by rw [g14]; exact Z0
  have old16 : h0.size ≤ b14 := by rw [g14]; exact (Keep.refl h0 []).1
  have k17 := (Keep.refl h0 []).ext E14
  have z18 := Nat.le_trans Z0 E14.1
  have f19 : Fld Z h14 b14 "java/util/OptionalInt" "isPresent" "Z" (.int (0 : Int32)) := D14 (Or.inr (w41 hw)) (ty := .boolean) (by decide)
  have f20 : Fld Z h14 b14 "java/util/OptionalInt" "value" "I" (.int (0 : Int32)) := D14 (Or.inr (w43 hw)) (ty := .int) (by decide)
  refine go_dup (pc' := 4) W14 d4_3 rfl rfl ?_
  refine go_iloadN (pc' := 5) W14 d4_4 rfl rfl ?_
  refine go_callN (a := b14) (kc := K5) (argsL := [(.int x)]) (rest := [(.ref b14)]) (pc' := 8) W14 (w35 hw) (w36 hw) (w31 hw) (w38 hw) (rm5 E.l Z a0 hw b14 x h14 n0 z18 A14 f19 f20 ge15) rfl rfl (by decide) pd0 rfl rfl rfl (nb rfl) (nb rfl) (nb rfl) (nb rfl) d4_5 rfl ?_
  rintro _ T21 h21 ⟨rfl, K21, p21, v21⟩ W21
  have f22 := A14.keep K21
  have k25 := k17.trans K21 (allS (Or.inr old16) all0)
  have z26 := Nat.le_trans z18 K21.1
  show Go E _ (Fm E T21 8 #[.val (.int x)] [(.ref b14)])
  exact go_retA W21 (t := (.object "java/util/OptionalInt")) rfl rfl rfl rfl d4_8 (nb rfl) (nb rfl) (⟨b14, rfl, ge15, old16, k25, f22, p21, v21⟩)
set_option maxRecDepth 65536 in
set_option maxHeartbeats 4000000 in
theorem rm3 (l : Launch) (Z : State) (a0 : Array Value) (hw : Hw a0 Z) (d : Addr) (g : Nat → Int32) (h0 : Heap) (n0 : Nat) (Z0 : n0 ≤ h0.size) (Ad : Af Z h0 d .int 3 (fun i => .int (g i))) (hp0 : ¬ 0 < lcmpW ((1 : Int64) * ((g 0).toInt64)) (1073741824 : Int64)) (hp1 : ¬ 0 < lcmpW (((1 : Int64) * ((g 0).toInt64)) * ((g 1).toInt64)) (1073741824 : Int64)) (hp2 : ¬ 0 < lcmpW ((((1 : Int64) * ((g 0).toInt64)) * ((g 1).toInt64)) * ((g 2).toInt64)) (1073741824 : Int64)) :
    Ct l Z K3 #[(.ref d)] h0 n0 (fun v h => ∃ o : Addr, v = some (.ref o) ∧ n0 ≤ o ∧ h0.size ≤ o ∧ Keep h0 h [] ∧ Exa Z h o "java/util/OptionalInt" ∧ Fld Z h o "java/util/OptionalInt" "isPresent" "Z" (.int 1) ∧ Fld Z h o "java/util/OptionalInt" "value" "I" (.int (((((1 : Int64) * ((g 0).toInt64)) * ((g 1).toInt64)) * ((g 2).toInt64)).toInt32))) := by
  refine Ct.of (Ls := #[.val (.ref d), .unset, .unset, .unset, .unset, .unset, .unset]) (plainFor_of_name (by first | decide +kernel | (simp [plainName, overriddenIn]; done))) (fun m => by first | rfl | (simp [entryFrame, mkF, argsToLocals, Value.category]; done)) ?_
  intro E T W
  refine go_lconst (pc' := 1) (z := 1) W d3_0 rfl rfl ?_
  refine go_lstoreN (pc' := 2) (l' := #[.val (.ref d), .val (.long (1 : Int64)), .second, .unset, .unset, .unset, .unset]) W d3_1 rfl rfl ?_
  refine go_aloadN (pc' := 3) W d3_2 rfl rfl rfl ?_
  refine go_astoreN (pc' := 4) (l' := #[.val (.ref d), .val (.long (1 : Int64)), .second, .val (.ref d), .unset, .unset, .unset]) W d3_3 rfl rfl rfl ?_
  refine go_aloadN (pc' := 5) W d3_4 rfl rfl rfl ?_
  refine go_lenF (pc' := 6) (z := (3 : Int32)) W Ad rfl d3_5 rfl ?_
  refine go_istore (pc' := 8) (l' := #[.val (.ref d), .val (.long (1 : Int64)), .second, .val (.ref d), .val (.int (3 : Int32)), .unset, .unset]) W d3_6 rfl rfl ?_
  refine go_iconst (pc' := 9) (z := 0) W d3_8 rfl rfl ?_
  refine go_istore (pc' := 11) (l' := #[.val (.ref d), .val (.long (1 : Int64)), .second, .val (.ref d), .val (.int (3 : Int32)), .val (.int (0 : Int32)), .unset]) W d3_9 rfl rfl ?_
  refine go_iload (pc' := 13) W d3_11 rfl rfl ?_
  refine go_iload (pc' := 15) W d3_13 rfl rfl ?_
  refine go_icmp_ge (pt := 48) (pf := 18) W d3_15 (by decide) rfl rfl (fun c15_27 => ?_) (fun c15_27 => ?_)
  · exact absurd c15_27 (by decide)
  · -- pc 15 not taken
    refine go_aloadN (pc' := 19) W d3_18 rfl rfl rfl ?_
    refine go_iload (pc' := 21) W d3_19 rfl rfl ?_
    refine go_ialoadF (pc' := 22) (i := 0) (v := (.int (g 0))) W Ad (by decide) (by decide) rfl d3_21 rfl ?_
    refine go_istore (pc' := 24) (l' := #[.val (.ref d), .val (.long (1 : Int64)), .second, .val (.ref d), .val (.int (3 : Int32)), .val (.int (0 : Int32)), .val (.int (g 0))]) W d3_22 rfl rfl ?_
    refine go_lloadN (pc' := 25) W d3_24 rfl rfl ?_
    refine go_iload (pc' := 27) W d3_25 rfl rfl ?_
    refine go_i2l (pc' := 28) W d3_27 rfl ?_
    refine go_lmul (pc' := 29) W d3_28 rfl ?_
    refine go_lstoreN (pc' := 30) (l' := #[.val (.ref d), .val (.long ((1 : Int64) * ((g 0).toInt64))), .second, .val (.ref d), .val (.int (3 : Int32)), .val (.int (0 : Int32)), .val (.int (g 0))]) W d3_29 rfl rfl ?_
    refine go_lloadN (pc' := 31) W d3_30 rfl rfl ?_
    refine go_ldc2Long (pc' := 34) W (w28 hw) d3_31 rfl ?_
    refine go_lcmp (pc' := 35) W d3_34 rfl ?_
    refine go_if_le (pt := 42) (pf := 38) W d3_35 (by decide) rfl rfl (fun c35_28 => ?_) (fun c35_28 => ?_)
    · -- pc 35 taken
      refine go_iinc (pc' := 45) (z := (1 : Int32)) (l' := #[.val (.ref d), .val (.long ((1 : Int64) * ((g 0).toInt64))), .second, .val (.ref d), .val (.int (3 : Int32)), .val (.int (1 : Int32)), .val (.int (g 0))]) W d3_42 rfl (by decide) rfl rfl ?_
      refine go_goto (pc' := 11) W d3_45 (by decide) rfl ?_
      refine go_iload (pc' := 13) W d3_11 rfl rfl ?_
      refine go_iload (pc' := 15) W d3_13 rfl rfl ?_
      refine go_icmp_ge (pt := 48) (pf := 18) W d3_15 (by decide) rfl rfl (fun c15_29 => ?_) (fun c15_29 => ?_)
      · exact absurd c15_29 (by decide)
      · -- pc 15 not taken
        refine go_aloadN (pc' := 19) W d3_18 rfl rfl rfl ?_
        refine go_iload (pc' := 21) W d3_19 rfl rfl ?_
        refine go_ialoadF (pc' := 22) (i := 1) (v := (.int (g 1))) W Ad (by decide) (by decide) rfl d3_21 rfl ?_
        refine go_istore (pc' := 24) (l' := #[.val (.ref d), .val (.long ((1 : Int64) * ((g 0).toInt64))), .second, .val (.ref d), .val (.int (3 : Int32)), .val (.int (1 : Int32)), .val (.int (g 1))]) W d3_22 rfl rfl ?_
        refine go_lloadN (pc' := 25) W d3_24 rfl rfl ?_
        refine go_iload (pc' := 27) W d3_25 rfl rfl ?_
        refine go_i2l (pc' := 28) W d3_27 rfl ?_
        refine go_lmul (pc' := 29) W d3_28 rfl ?_
        refine go_lstoreN (pc' := 30) (l' := #[.val (.ref d), .val (.long (((1 : Int64) * ((g 0).toInt64)) * ((g 1).toInt64))), .second, .val (.ref d), .val (.int (3 : Int32)), .val (.int (1 : Int32)), .val (.int (g 1))]) W d3_29 rfl rfl ?_
        refine go_lloadN (pc' := 31) W d3_30 rfl rfl ?_
        refine go_ldc2Long (pc' := 34) W (w28 hw) d3_31 rfl ?_
        refine go_lcmp (pc' := 35) W d3_34 rfl ?_
        refine go_if_le (pt := 42) (pf := 38) W d3_35 (by decide) rfl rfl (fun c35_30 => ?_) (fun c35_30 => ?_)
        · -- pc 35 taken
          refine go_iinc (pc' := 45) (z := (2 : Int32)) (l' := #[.val (.ref d), .val (.long (((1 : Int64) * ((g 0).toInt64)) * ((g 1).toInt64))), .second, .val (.ref d), .val (.int (3 : Int32)), .val (.int (2 : Int32)), .val (.int (g 1))]) W d3_42 rfl (by decide) rfl rfl ?_
          refine go_goto (pc' := 11) W d3_45 (by decide) rfl ?_
          refine go_iload (pc' := 13) W d3_11 rfl rfl ?_
          refine go_iload (pc' := 15) W d3_13 rfl rfl ?_
          refine go_icmp_ge (pt := 48) (pf := 18) W d3_15 (by decide) rfl rfl (fun c15_31 => ?_) (fun c15_31 => ?_)
          · exact absurd c15_31 (by decide)
          · -- pc 15 not taken
            refine go_aloadN (pc' := 19) W d3_18 rfl rfl rfl ?_
            refine go_iload (pc' := 21) W d3_19 rfl rfl ?_
            refine go_ialoadF (pc' := 22) (i := 2) (v := (.int (g 2))) W Ad (by decide) (by decide) rfl d3_21 rfl ?_
            refine go_istore (pc' := 24) (l' := #[.val (.ref d), .val (.long (((1 : Int64) * ((g 0).toInt64)) * ((g 1).toInt64))), .second, .val (.ref d), .val (.int (3 : Int32)), .val (.int (2 : Int32)), .val (.int (g 2))]) W d3_22 rfl rfl ?_
            refine go_lloadN (pc' := 25) W d3_24 rfl rfl ?_
            refine go_iload (pc' := 27) W d3_25 rfl rfl ?_
            refine go_i2l (pc' := 28) W d3_27 rfl ?_
            refine go_lmul (pc' := 29) W d3_28 rfl ?_
            refine go_lstoreN (pc' := 30) (l' := #[.val (.ref d), .val (.long ((((1 : Int64) * ((g 0).toInt64)) * ((g 1).toInt64)) * ((g 2).toInt64))), .second, .val (.ref d), .val (.int (3 : Int32)), .val (.int (2 : Int32)), .val (.int (g 2))]) W d3_29 rfl rfl ?_
            refine go_lloadN (pc' := 31) W d3_30 rfl rfl ?_
            refine go_ldc2Long (pc' := 34) W (w28 hw) d3_31 rfl ?_
            refine go_lcmp (pc' := 35) W d3_34 rfl ?_
            refine go_if_le (pt := 42) (pf := 38) W d3_35 (by decide) rfl rfl (fun c35_32 => ?_) (fun c35_32 => ?_)
            · -- pc 35 taken
              refine go_iinc (pc' := 45) (z := (3 : Int32)) (l' := #[.val (.ref d), .val (.long ((((1 : Int64) * ((g 0).toInt64)) * ((g 1).toInt64)) * ((g 2).toInt64))), .second, .val (.ref d), .val (.int (3 : Int32)), .val (.int (3 : Int32)), .val (.int (g 2))]) W d3_42 rfl (by decide) rfl rfl ?_
              refine go_goto (pc' := 11) W d3_45 (by decide) rfl ?_
              refine go_iload (pc' := 13) W d3_11 rfl rfl ?_
              refine go_iload (pc' := 15) W d3_13 rfl rfl ?_
              refine go_icmp_ge (pt := 48) (pf := 18) W d3_15 (by decide) rfl rfl (fun c15_33 => ?_) (fun c15_33 => ?_)
              · -- pc 15 taken
                refine go_lloadN (pc' := 49) W d3_48 rfl rfl ?_
                refine go_l2i (pc' := 50) W d3_49 rfl ?_
                refine go_callS (kc := K4) (argsL := [(.int (((((1 : Int64) * ((g 0).toInt64)) * ((g 1).toInt64)) * ((g 2).toInt64)).toInt32))]) (rest := []) (pc' := 53) W (w29 hw) (w30 hw) (w31 hw) (w32 hw) (rm4 E.l Z a0 hw (((((1 : Int64) * ((g 0).toInt64)) * ((g 1).toInt64)) * ((g 2).toInt64)).toInt32) h0 n0 Z0) (by decide) pd1 rfl rfl rfl (nb rfl) (nb rfl) (nb rfl) (nb rfl) d3_50 rfl ?_
                rintro _ T34 h34 ⟨o34, rfl, go34, so34, K34, e34, p34, v34⟩ W34
                have ne35 : d ≠ o34 := Nat.ne_of_lt (Nat.lt_of_lt_of_le Ad.lt so34)
                have old36 : h0.size ≤ o34 := Nat.le_trans (Keep.refl h0 []).1 so34
                have k37 := (Keep.refl h0 []).trans K34 all0
                have z38 := Nat.le_trans Z0 K34.1
                have f39 := Ad.keep K34 nin0
                show Go E _ (Fm E T34 53 #[.val (.ref d), .val (.long ((((1 : Int64) * ((g 0).toInt64)) * ((g 1).toInt64)) * ((g 2).toInt64))), .second, .val (.ref d), .val (.int (3 : Int32)), .val (.int (3 : Int32)), .val (.int (g 2))] [(.ref o34)])
                exact go_retA W34 (t := (.object "java/util/OptionalInt")) rfl rfl rfl rfl d3_53 (nb rfl) (nb rfl) (⟨o34, rfl, go34, old36, k37, e34, p34, v34⟩)
              · exact absurd c15_33 (by decide)
            · exact absurd c35_32 hp2
        · exact absurd c35_30 hp1
    · exact absurd c35_28 hp0
set_option maxRecDepth 65536 in
set_option maxHeartbeats 4000000 in
theorem rm6 (l : Launch) (Z : State) (a0 : Array Value) (hw : Hw a0 Z) (a : Addr) (s : Addr) (r : Int32) (h0 : Heap) (n0 : Nat) (Z0 : n0 ≤ h0.size) (F0 : Fld Z h0 a "java/util/OptionalInt" "isPresent" "Z" (.int 1)) (F1 : Fld Z h0 a "java/util/OptionalInt" "value" "I" (.int r)) :
    Ct l Z K6 #[(.ref a), (.ref s)] h0 n0 (fun v h => v = some (.int r) ∧ h = h0) := by
  refine Ct.of (Ls := #[.val (.ref a), .val (.ref s)]) (plainFor_of_name (by first | decide +kernel | (simp [plainName, overriddenIn]; done))) (fun m => by first | rfl | (simp [entryFrame, mkF, argsToLocals, Value.category]; done)) ?_
  intro E T W
  refine go_aloadN (pc' := 1) W d6_0 rfl rfl rfl ?_
  refine go_getF (pc' := 4) W (host := "") (Or.inl (w40 hw)) Via.refl F0 d6_1 rfl ?_
  intro T40 W40
  refine go_if_eq (pt := 12) (pf := 7) W40 d6_4 (by decide) rfl rfl (fun c4_41 => ?_) (fun c4_41 => ?_)
  · exact absurd c4_41 (by decide)
  · -- pc 4 not taken
    refine go_aloadN (pc' := 8) W40 d6_7 rfl rfl rfl ?_
    refine go_getF (pc' := 11) W40 (host := "") (Or.inl (w42 hw)) Via.refl F1 d6_8 rfl ?_
    intro T42 W42
    exact go_retI W42 (t := .int) rfl (by simp) rfl d6_11 (nb rfl) (nb rfl) (⟨rfl, rfl⟩)
set_option maxRecDepth 65536 in
set_option maxHeartbeats 4000000 in
theorem rm1 (l : Launch) (Z : State) (a0 : Array Value) (hw : Hw a0 Z) (a : Addr) (b : Addr) (d : Addr) (f g : Nat → Int32) (h0 : Heap) (n0 : Nat) (Z0 : n0 ≤ h0.size) (Ea : Exa Z h0 a "com/example/hushmediator/hushmediator/search/JointDomain") (F0 : Fld Z h0 a "com/example/hushmediator/hushmediator/search/JointDomain" "members" "[I" .null) (F1 : Fld Z h0 a "com/example/hushmediator/hushmediator/search/JointDomain" "sizes" "[I" .null) (F2 : Fld Z h0 a "com/example/hushmediator/hushmediator/search/JointDomain" "size" "I" (.int (0 : Int32))) (ga : n0 ≤ a) (Ab : Af Z h0 b .int 3 (fun i => .int (f i))) (Eb : Exa Z h0 b "[I") (Ad : Af Z h0 d .int 3 (fun i => .int (g i))) (Ed : Exa Z h0 d "[I") (nba : b ≠ a) (nda : d ≠ a) (hp0 : ¬ 0 < lcmpW ((1 : Int64) * ((g 0).toInt64)) (1073741824 : Int64)) (hp1 : ¬ 0 < lcmpW (((1 : Int64) * ((g 0).toInt64)) * ((g 1).toInt64)) (1073741824 : Int64)) (hp2 : ¬ 0 < lcmpW ((((1 : Int64) * ((g 0).toInt64)) * ((g 1).toInt64)) * ((g 2).toInt64)) (1073741824 : Int64)) :
    Ct l Z K1 #[(.ref a), (.ref b), (.ref d)] h0 n0 (fun v h => v = none ∧ Keep h0 h [a] ∧ ∃ e : Addr, h0.size ≤ e ∧ n0 ≤ e ∧ Fld Z h a "com/example/hushmediator/hushmediator/search/JointDomain" "sizes" "[I" (.ref e) ∧ Af Z h e .int 3 (fun i => .int (g i))) := by
  refine Ct.of (Ls := #[.val (.ref a), .val (.ref b), .val (.ref d)]) (plainFor_of_name (by first | decide +kernel | (simp [plainName, overriddenIn]; done))) (fun m => by first | rfl | (simp [entryFrame, mkF, argsToLocals, Value.category]; done)) ?_
  intro E T W
  refine go_aloadN (pc' := 1) W d1_0 rfl rfl rfl ?_
  refine go_initO (pc' := 4) W (w8 hw) (w9 hw) (w10 hw) d1_1 rfl (nb rfl) (nb rfl) rfl ?_
  intro T43 W43
  refine go_aloadN (pc' := 5) W43 d1_4 rfl rfl rfl ?_
  refine go_aloadN (pc' := 6) W43 d1_5 rfl rfl rfl ?_
  refine go_cloneF (pc' := 9) W43 (w11 hw) (w12 hw) (w16 hw) (w14 hw) (w15 hw) (w17 hw) Ab (fun _ _ => rfl) Eb d1_6 rfl (nb rfl) (nb rfl) (nb rfl) (nb rfl) rfl ?_
  intro T44 h44 b44 g44 W44 E44 A44 X44
  have ne45 : a ≠ b44 := by rw [g44]; exact Nat.ne_of_lt Ea.lt
  have ne46 : b ≠ b44 := by rw [g44]; exact Nat.ne_of_lt Ab.lt
  have ne47 : d ≠ b44 := by rw [g44]; exact Nat.ne_of_lt Ad.lt
  have ge48 : n0 ≤ b44 := by rw [g44]; exact Z0
  have old49 : h0.size ≤ b44 := by rw [g44]; exact (Keep.refl h0 [a]).1
  have f50 := Ea.ext E44
  have f51 := Ab.ext E44
  have f52 := Ad.ext E44
  have f53 := Eb.ext E44
  have f54 := Ed.ext E44
  have f55 := F0.ext E44
  have f56 := F1.ext E44
  have f57 := F2.ext E44
  have k58 := (Keep.refl h0 [a]).ext E44
  have z59 := Nat.le_trans Z0 E44.1
  refine go_castY (pc' := 12) W44 (w18 hw) (Ins.self X44) d1_9 rfl ?_
  intro T60 W60
  refine go_putF (pc' := 15) W60 (host := "") (Or.inl (w20 hw)) Via.refl f55 f50 (Or.inr ⟨(w21 hw), rfl, rfl⟩) (w3 hw) (ty := (.array .int)) (by decide) rfl rfl ga d1_12 rfl ?_
  intro T61 h61 W61 R61
  have f62 := f50.wr R61
  have f63 := f51.other R61 nba
  have f64 := f52.other R61 nda
  have f65 := f53.wr R61
  have f66 := f54.wr R61
  have f67 := f55.same R61
  have f68 := f56.other R61 (Or.inr (slot_ne (Or.inr (w23 hw)) (Or.inr (w21 hw)) (by decide) (t := (.array .int)) (t' := (.array .int)) (by decide) (by decide)))
  have f69 := f57.other R61 (Or.inr (slot_ne (Or.inr (w53 hw)) (Or.inr (w21 hw)) (by decide) (t := .int) (t' := (.array .int)) (by decide) (by decide)))
  have f70 := A44.other R61 (Ne.symm ne45)
  have f71 := X44.wr R61
  have k72 := k58.wr R61 (Or.inl (by simp))
  have z73 := Nat.le_trans z59 (Keep.of_wr R61).1
  refine go_aloadN (pc' := 16) W61 d1_15 rfl rfl rfl ?_
  refine go_aloadN (pc' := 17) W61 d1_16 rfl rfl rfl ?_
  refine go_cloneF (pc' := 20) W61 (w11 hw) (w12 hw) (w16 hw) (w14 hw) (w15 hw) (w17 hw) f64 (fun _ _ => rfl) f66 d1_17 rfl (nb rfl) (nb rfl) (nb rfl) (nb rfl) rfl ?_
  intro T74 h74 b74 g74 W74 E74 A74 X74
  have ne75 : a ≠ b74 := by rw [g74]; exact Nat.ne_of_lt f62.lt
  have ne76 : b ≠ b74 := by rw [g74]; exact Nat.ne_of_lt f63.lt
  have ne77 : d ≠ b74 := by rw [g74]; exact Nat.ne_of_lt f64.lt
  have ne78 : b44 ≠ b74 := by rw [g74]; exact Nat.ne_of_lt f70.lt
  have ge79 : n0 ≤ b74 := by rw [g74]; exact z73
  have old80 : h0.size ≤ b74 := by rw [g74]; exact k72.1
  have f81 := f62.ext E74
  have f82 := f63.ext E74
  have f83 := f64.ext E74
  have f84 := f65.ext E74
  have f85 := f66.ext E74
  have f86 := f67.ext E74
  have f87 := f68.ext E74
  have f88 := f69.ext E74
  have f89 := f70.ext E74
  have f90 := f71.ext E74
  have k91 := k72.ext E74
  have z92 := Nat.le_trans z73 E74.1
  refine go_castY (pc' := 23) W74 (w18 hw) (Ins.self X74) d1_20 rfl ?_
  intro T93 W93
  refine go_putF (pc' := 26) W93 (host := "") (Or.inl (w22 hw)) Via.refl f87 f81 (Or.inr ⟨(w23 hw), rfl, rfl⟩) (w3 hw) (ty := (.array .int)) (by decide) rfl rfl ga d1_23 rfl ?_
  intro T94 h94 W94 R94
  have f95 := f81.wr R94
  have f96 := f82.other R94 nba
  have f97 := f83.other R94 nda
  have f98 := f84.wr R94
  have f99 := f85.wr R94
  have f100 := f86.other R94 (Or.inr (slot_ne (Or.inr (w21 hw)) (Or.inr (w23 hw)) (by decide) (t := (.array .int)) (t' := (.array .int)) (by decide) (by decide)))
  have f101 := f87.same R94
  have f102 := f88.other R94 (Or.inr (slot_ne (Or.inr (w53 hw)) (Or.inr (w23 hw)) (by decide) (t := .int) (t' := (.array .int)) (by decide) (by decide)))
  have f103 := f89.other R94 (Ne.symm ne45)
  have f104 := f90.wr R94
  have f105 := A74.other R94 (Ne.symm ne75)
  have f106 := X74.wr R94
  have k107 := k91.wr R94 (Or.inl (by simp))
  have z108 := Nat.le_trans z92 (Keep.of_wr R94).1
  refine go_aloadN (pc' := 27) W94 d1_26 rfl rfl rfl ?_
  refine go_aloadN (pc' := 28) W94 d1_27 rfl rfl rfl ?_
  refine go_callS (kc := K3) (argsL := [(.ref d)]) (rest := [(.ref a)]) (pc' := 31) W94 (w24 hw) (w25 hw) (w26 hw) (w27 hw) (rm3 E.l Z a0 hw d g h94 n0 z108 f97 hp0 hp1 hp2) (by decide) pd2 rfl rfl rfl (nb rfl) (nb rfl) (nb rfl) (nb rfl) d1_28 rfl ?_
  rintro _ T109 h109 ⟨o109, rfl, go109, so109, K109, e109, p109, v109⟩ W109
  have ne110 : a ≠ o109 := Nat.ne_of_lt (Nat.lt_of_lt_of_le f95.lt so109)
  have ne111 : b ≠ o109 := Nat.ne_of_lt (Nat.lt_of_lt_of_le f96.lt so109)
  have ne112 : d ≠ o109 := Nat.ne_of_lt (Nat.lt_of_lt_of_le f97.lt so109)
  have ne113 : b44 ≠ o109 := Nat.ne_of_lt (Nat.lt_of_lt_of_le f103.lt so109)
  have ne114 : b74 ≠ o109 := Nat.ne_of_lt (Nat.lt_of_lt_of_le f105.lt so109)
  have old115 : h0.size ≤ o109 := Nat.le_trans k107.1 so109
  have f116 := f95.keep K109
  have f117 := f98.keep K109
  have f118 := f99.keep K109
  have f119 := f100.keep K109 nin0
  have f120 := f101.keep K109 nin0
  have f121 := f102.keep K109 nin0
  have f122 := f104.keep K109
  have f123 := f106.keep K109
  have k124 := k107.trans K109 all0
  have z125 := Nat.le_trans z108 K109.1
  have f126 := f96.keep K109 nin0
  have f127 := f97.keep K109 nin0
  have f128 := f103.keep K109 nin0
  have f129 := f105.keep K109 nin0
  show Go E _ (Fm E T109 31 #[.val (.ref a), .val (.ref b), .val (.ref d)] [(.ref o109), (.ref a)])
  refine go_lamConst (pc' := 36) W109 (w44 hw) rfl d1_31 rfl (nb rfl) rfl ?_
  intro sp130
  refine go_callV (a := o109) (kc := K6) (argsL := [(.ref sp130)]) (rest := [(.ref a)]) (pc' := 39) W109 (w47 hw) (w48 hw) (nf_sel W109 (w50 hw)) (w50 hw) (w49 hw) (w31 hw) (w51 hw) e109 (rm6 E.l Z a0 hw o109 sp130 (((((1 : Int64) * ((g 0).toInt64)) * ((g 1).toInt64)) * ((g 2).toInt64)).toInt32) h109 n0 z125 p109 v109) (by decide) pd3 rfl rfl rfl (nb rfl) (nb rfl) (nb rfl) (nb rfl) d1_36 rfl ?_
  rintro _ T131 h131 ⟨rfl, q131⟩ W131
  replace W131 := W131.sub q131
  show Go E _ (Fm E T131 39 #[.val (.ref a), .val (.ref b), .val (.ref d)] [(.int (((((1 : Int64) * ((g 0).toInt64)) * ((g 1).toInt64)) * ((g 2).toInt64)).toInt32)), (.ref a)])
  refine go_putF (pc' := 42) W131 (host := "") (Or.inl (w52 hw)) Via.refl f121 f116 (Or.inr ⟨(w53 hw), rfl, rfl⟩) (w3 hw) (ty := .int) (by decide) rfl rfl ga d1_39 rfl ?_
  intro T132 h132 W132 R132
  have f133 := f116.wr R132
  have f134 := f117.wr R132
  have f135 := f118.wr R132
  have f136 := f119.other R132 (Or.inr (slot_ne (Or.inr (w21 hw)) (Or.inr (w53 hw)) (by decide) (t := (.array .int)) (t' := .int) (by decide) (by decide)))
  have f137 := f120.other R132 (Or.inr (slot_ne (Or.inr (w23 hw)) (Or.inr (w53 hw)) (by decide) (t := (.array .int)) (t' := .int) (by decide) (by decide)))
  have f138 := f121.same R132
  have f139 := f122.wr R132
  have f140 := f123.wr R132
  have f141 := f126.other R132 nba
  have f142 := f127.other R132 nda
  have f143 := f128.other R132 (Ne.symm ne45)
  have f144 := f129.other R132 (Ne.symm ne75)
  have f145 := e109.wr R132
  have f146 := p109.other R132 (Or.inl (Ne.symm ne110))
  have f147 := v109.other R132 (Or.inl (Ne.symm ne110))
  have k148 := k124.wr R132 (Or.inl (by simp))
  have z149 := Nat.le_trans z125 (Keep.of_wr R132).1
  exact go_retV W132 rfl d1_42 (nb rfl) (nb rfl) (⟨rfl, k148, b74, old80, ge79, f137, f144⟩)
set_option maxRecDepth 65536 in
set_option maxHeartbeats 4000000 in
theorem rm7 (l : Launch) (Z : State) (a0 : Array Value) (hw : Hw a0 Z) (a : Addr) (r : Addr) (e : Addr) (g j : Nat → Int32) (h0 : Heap) (n0 : Nat) (Z0 : n0 ≤ h0.size) (Fs : Fld Z h0 a "com/example/hushmediator/hushmediator/search/JointDomain" "sizes" "[I" (.ref e)) (Ae : Af Z h0 e .int 3 (fun i => .int (g i))) (Ar : Af Z h0 r .int 3 (fun i => .int (j i))) (ner : e ≠ r) (nar : a ≠ r) (gr : n0 ≤ r) :
    Ct l Z K7 #[(.ref a), (.ref r)] h0 n0 (fun v h => v = some (.int (own_adv (j 0) (j 1) (j 2) (g 0) (g 1) (g 2)).1) ∧ Keep h0 h [r] ∧ Af Z h r .int 3 (fun i => .int (own_g (own_adv (j 0) (j 1) (j 2) (g 0) (g 1) (g 2)).2.1 (own_adv (j 0) (j 1) (j 2) (g 0) (g 1) (g 2)).2.2.1 (own_adv (j 0) (j 1) (j 2) (g 0) (g 1) (g 2)).2.2.2 i))) := by
  refine Ct.of (Ls := #[.val (.ref a), .val (.ref r), .unset]) (plainFor_of_name (by first | decide +kernel | (simp [plainName, overriddenIn]; done))) (fun m => by first | rfl | (simp [entryFrame, mkF, argsToLocals, Value.category]; done)) ?_
  intro E T W
  refine go_aloadN (pc' := 1) W d7_0 rfl rfl rfl ?_
  refine go_lenF (pc' := 2) (z := (3 : Int32)) W Ar rfl d7_1 rfl ?_
  refine go_iconst (pc' := 3) (z := 1) W d7_2 rfl rfl ?_
  refine go_isubZ (pc' := 4) (z := 2) W d7_3 (by decide) rfl ?_
  refine go_istoreN (pc' := 5) (l' := #[.val (.ref a), .val (.ref r), .val (.int (2 : Int32))]) W d7_4 rfl rfl ?_
  refine go_iloadN (pc' := 6) W d7_5 rfl rfl ?_
  refine go_if_lt (pt := 38) (pf := 9) W d7_6 (by decide) rfl rfl (fun c6_150 => ?_) (fun c6_150 => ?_)
  · exact absurd c6_150 (by decide)
  · -- pc 6 not taken
    refine go_aloadN (pc' := 10) W d7_9 rfl rfl rfl ?_
    refine go_iloadN (pc' := 11) W d7_10 rfl rfl ?_
    refine go_dup2 (pc' := 12) W d7_11 rfl rfl rfl ?_
    refine go_ialoadF (pc' := 13) (i := 2) (v := (.int (j 2))) W Ar (by decide) (by decide) rfl d7_12 rfl ?_
    refine go_iconst (pc' := 14) (z := 1) W d7_13 rfl rfl ?_
    refine go_iadd (pc' := 15) W d7_14 rfl ?_
    refine go_dupX2 (pc' := 16) W d7_15 rfl rfl rfl rfl ?_
    refine go_stIF (pc' := 17) (i := 2) W Ar (by decide) (by decide) gr d7_16 rfl ?_
    intro T151 h151 W151 R151 A151
    have f152 := Fs.other R151 (Or.inl nar)
    have f153 := Ae.other R151 ner
    have k155 := (Keep.refl h0 [r]).wr R151 (Or.inl (by simp))
    have z156 := Nat.le_trans Z0 (Keep.of_wr R151).1
    refine go_aloadN (pc' := 18) W151 d7_17 rfl rfl rfl ?_
    refine go_getF (pc' := 21) W151 (host := "") (Or.inl (w22 hw)) Via.refl f152 d7_18 rfl ?_
    intro T157 W157
    refine go_iloadN (pc' := 22) W157 d7_21 rfl rfl ?_
    refine go_ialoadF (pc' := 23) (i := 2) (v := (.int (g 2))) W157 f153 (by decide) (by decide) rfl d7_22 rfl ?_
    refine go_icmp_ge (pt := 28) (pf := 26) W157 d7_23 (by decide) rfl rfl (fun c23_158 => ?_) (fun c23_158 => ?_)
    · -- pc 23 taken
      refine go_aloadN (pc' := 29) W157 d7_28 rfl rfl rfl ?_
      refine go_iloadN (pc' := 30) W157 d7_29 rfl rfl ?_
      refine go_iconst (pc' := 31) (z := 0) W157 d7_30 rfl rfl ?_
      refine go_stIF (pc' := 32) (i := 2) W157 A151 (by decide) (by decide) gr d7_31 rfl ?_
      intro T159 h159 W159 R159 A159
      have f160 := f152.other R159 (Or.inl nar)
      have f161 := f153.other R159 ner
      have k163 := k155.wr R159 (Or.inl (by simp))
      have z164 := Nat.le_trans z156 (Keep.of_wr R159).1
      refine go_iinc (pc' := 35) (z := (1 : Int32)) (l' := #[.val (.ref a), .val (.ref r), .val (.int (1 : Int32))]) W159 d7_32 rfl (by decide) rfl rfl ?_
      refine go_goto (pc' := 5) W159 d7_35 (by decide) rfl ?_
      refine go_iloadN (pc' := 6) W159 d7_5 rfl rfl ?_
      refine go_if_lt (pt := 38) (pf := 9) W159 d7_6 (by decide) rfl rfl (fun c6_165 => ?_) (fun c6_165 => ?_)
      · exact absurd c6_165 (by decide)
      · -- pc 6 not taken
        refine go_aloadN (pc' := 10) W159 d7_9 rfl rfl rfl ?_
        refine go_iloadN (pc' := 11) W159 d7_10 rfl rfl ?_
        refine go_dup2 (pc' := 12) W159 d7_11 rfl rfl rfl ?_
        refine go_ialoadF (pc' := 13) (i := 1) (v := (.int (j 1))) W159 A159 (by decide) (by decide) rfl d7_12 rfl ?_
        refine go_iconst (pc' := 14) (z := 1) W159 d7_13 rfl rfl ?_
        refine go_iadd (pc' := 15) W159 d7_14 rfl ?_
        refine go_dupX2 (pc' := 16) W159 d7_15 rfl rfl rfl rfl ?_
        refine go_stIF (pc' := 17) (i := 1) W159 A159 (by decide) (by decide) gr d7_16 rfl ?_
        intro T166 h166 W166 R166 A166
        have f167 := f160.other R166 (Or.inl nar)
        have f168 := f161.other R166 ner
        have k170 := k163.wr R166 (Or.inl (by simp))
        have z171 := Nat.le_trans z164 (Keep.of_wr R166).1
        refine go_aloadN (pc' := 18) W166 d7_17 rfl rfl rfl ?_
        refine go_getF (pc' := 21) W166 (host := "") (Or.inl (w22 hw)) Via.refl f167 d7_18 rfl ?_
        intro T172 W172
        refine go_iloadN (pc' := 22) W172 d7_21 rfl rfl ?_
        refine go_ialoadF (pc' := 23) (i := 1) (v := (.int (g 1))) W172 f168 (by decide) (by decide) rfl d7_22 rfl ?_
        refine go_icmp_ge (pt := 28) (pf := 26) W172 d7_23 (by decide) rfl rfl (fun c23_173 => ?_) (fun c23_173 => ?_)
        · -- pc 23 taken
          refine go_aloadN (pc' := 29) W172 d7_28 rfl rfl rfl ?_
          refine go_iloadN (pc' := 30) W172 d7_29 rfl rfl ?_
          refine go_iconst (pc' := 31) (z := 0) W172 d7_30 rfl rfl ?_
          refine go_stIF (pc' := 32) (i := 1) W172 A166 (by decide) (by decide) gr d7_31 rfl ?_
          intro T174 h174 W174 R174 A174
          have f175 := f167.other R174 (Or.inl nar)
          have f176 := f168.other R174 ner
          have k178 := k170.wr R174 (Or.inl (by simp))
          have z179 := Nat.le_trans z171 (Keep.of_wr R174).1
          refine go_iinc (pc' := 35) (z := (0 : Int32)) (l' := #[.val (.ref a), .val (.ref r), .val (.int (0 : Int32))]) W174 d7_32 rfl (by decide) rfl rfl ?_
          refine go_goto (pc' := 5) W174 d7_35 (by decide) rfl ?_
          refine go_iloadN (pc' := 6) W174 d7_5 rfl rfl ?_
          refine go_if_lt (pt := 38) (pf := 9) W174 d7_6 (by decide) rfl rfl (fun c6_180 => ?_) (fun c6_180 => ?_)
          · exact absurd c6_180 (by decide)
          · -- pc 6 not taken
            refine go_aloadN (pc' := 10) W174 d7_9 rfl rfl rfl ?_
            refine go_iloadN (pc' := 11) W174 d7_10 rfl rfl ?_
            refine go_dup2 (pc' := 12) W174 d7_11 rfl rfl rfl ?_
            refine go_ialoadF (pc' := 13) (i := 0) (v := (.int (j 0))) W174 A174 (by decide) (by decide) rfl d7_12 rfl ?_
            refine go_iconst (pc' := 14) (z := 1) W174 d7_13 rfl rfl ?_
            refine go_iadd (pc' := 15) W174 d7_14 rfl ?_
            refine go_dupX2 (pc' := 16) W174 d7_15 rfl rfl rfl rfl ?_
            refine go_stIF (pc' := 17) (i := 0) W174 A174 (by decide) (by decide) gr d7_16 rfl ?_
            intro T181 h181 W181 R181 A181
            have f182 := f175.other R181 (Or.inl nar)
            have f183 := f176.other R181 ner
            have k185 := k178.wr R181 (Or.inl (by simp))
            have z186 := Nat.le_trans z179 (Keep.of_wr R181).1
            refine go_aloadN (pc' := 18) W181 d7_17 rfl rfl rfl ?_
            refine go_getF (pc' := 21) W181 (host := "") (Or.inl (w22 hw)) Via.refl f182 d7_18 rfl ?_
            intro T187 W187
            refine go_iloadN (pc' := 22) W187 d7_21 rfl rfl ?_
            refine go_ialoadF (pc' := 23) (i := 0) (v := (.int (g 0))) W187 f183 (by decide) (by decide) rfl d7_22 rfl ?_
            refine go_icmp_ge (pt := 28) (pf := 26) W187 d7_23 (by decide) rfl rfl (fun c23_188 => ?_) (fun c23_188 => ?_)
            · -- pc 23 taken
              refine go_aloadN (pc' := 29) W187 d7_28 rfl rfl rfl ?_
              refine go_iloadN (pc' := 30) W187 d7_29 rfl rfl ?_
              refine go_iconst (pc' := 31) (z := 0) W187 d7_30 rfl rfl ?_
              refine go_stIF (pc' := 32) (i := 0) W187 A181 (by decide) (by decide) gr d7_31 rfl ?_
              intro T189 h189 W189 R189 A189
              have f190 := f182.other R189 (Or.inl nar)
              have f191 := f183.other R189 ner
              have k193 := k185.wr R189 (Or.inl (by simp))
              have z194 := Nat.le_trans z186 (Keep.of_wr R189).1
              refine go_iinc (pc' := 35) (z := (-1 : Int32)) (l' := #[.val (.ref a), .val (.ref r), .val (.int (-1 : Int32))]) W189 d7_32 rfl (by decide) rfl rfl ?_
              refine go_goto (pc' := 5) W189 d7_35 (by decide) rfl ?_
              refine go_iloadN (pc' := 6) W189 d7_5 rfl rfl ?_
              refine go_if_lt (pt := 38) (pf := 9) W189 d7_6 (by decide) rfl rfl (fun c6_195 => ?_) (fun c6_195 => ?_)
              · -- pc 6 taken
                refine go_iconst (pc' := 39) (z := 0) W189 d7_38 rfl rfl ?_
                exact go_retI W189 (t := .boolean) rfl (by simp) rfl d7_39 (nb rfl) (nb rfl) (by
                    have e : own_adv (j 0) (j 1) (j 2) (g 0) (g 1) (g 2) = (0, 0, 0, 0) := by simp [own_adv, c23_158, c23_173, c23_188]
                    rw [e]
                    exact ⟨rfl, k193, A189.congr (fun j hj => by match j, hj with | 0, _ => rfl | 1, _ => rfl | 2, _ => rfl)⟩)
              · exact absurd c6_195 (by decide)
            · -- pc 23 not taken
              refine go_iconst (pc' := 27) (z := 1) W187 d7_26 rfl rfl ?_
              exact go_retI W187 (t := .boolean) rfl (by simp) rfl d7_27 (nb rfl) (nb rfl) (by
                  have e : own_adv (j 0) (j 1) (j 2) (g 0) (g 1) (g 2) = (1, j 0 + 1, 0, 0) := by simp [own_adv, c23_158, c23_173, c23_188]
                  rw [e]
                  exact ⟨rfl, k185, A181.congr (fun j hj => by match j, hj with | 0, _ => rfl | 1, _ => rfl | 2, _ => rfl)⟩)
        · -- pc 23 not taken
          refine go_iconst (pc' := 27) (z := 1) W172 d7_26 rfl rfl ?_
          exact go_retI W172 (t := .boolean) rfl (by simp) rfl d7_27 (nb rfl) (nb rfl) (by
              have e : own_adv (j 0) (j 1) (j 2) (g 0) (g 1) (g 2) = (1, j 0, j 1 + 1, 0) := by simp [own_adv, c23_158, c23_173]
              rw [e]
              exact ⟨rfl, k170, A166.congr (fun j hj => by match j, hj with | 0, _ => rfl | 1, _ => rfl | 2, _ => rfl)⟩)
    · -- pc 23 not taken
      refine go_iconst (pc' := 27) (z := 1) W157 d7_26 rfl rfl ?_
      exact go_retI W157 (t := .boolean) rfl (by simp) rfl d7_27 (nb rfl) (nb rfl) (by
          have e : own_adv (j 0) (j 1) (j 2) (g 0) (g 1) (g 2) = (1, j 0, j 1, j 2 + 1) := by simp [own_adv, c23_158]
          rw [e]
          exact ⟨rfl, k155, A151.congr (fun j hj => by match j, hj with | 0, _ => rfl | 1, _ => rfl | 2, _ => rfl)⟩)
theorem own_sb (x : Int32) : 1 ≤ ((x &&& 15) + 1).toInt ∧ ((x &&& 15) + 1).toInt ≤ 16 := by
  have h1 := c_and x 15 (by decide)
  have h2 := c_iadd (x &&& 15) 1
  have h3 := rng32 ((x &&& 15) + 1)
  simp only [Int32.reduceToInt] at h1 h2
  omega
theorem own_snz (x : Int32) : (x &&& 15) + 1 ≠ 0 := fun q => by
  have h := own_sb x
  rw [q] at h
  simp only [Int32.reduceToInt] at h; omega
theorem own_mul {a b A B : Int} (h0 : 0 ≤ a) (h1 : a ≤ A) (h2 : 0 ≤ b) (h3 : b ≤ B) : 0 ≤ a * b ∧ a * b ≤ A * B := ⟨Int.mul_nonneg h0 h2, Int.mul_le_mul h1 h3 h2 (by omega)⟩
theorem own_le (x : Int64) (h : x.toInt ≤ 1073741824) : ¬ 0 < lcmpW x (1073741824 : Int64) := by
  rw [lw_gt, Int64.lt_iff_toInt_lt]
  have : (1073741824 : Int64).toInt = 1073741824 := by decide
  omega
theorem own_prod (s0 s1 s2 : Int32) (h0 : 1 ≤ s0.toInt ∧ s0.toInt ≤ 16) (h1 : 1 ≤ s1.toInt ∧ s1.toInt ≤ 16) (h2 : 1 ≤ s2.toInt ∧ s2.toInt ≤ 16) :
    ((1 : Int64) * (s0.toInt64)).toInt ≤ 1073741824 ∧ ((1 : Int64) * (s0.toInt64) * (s1.toInt64)).toInt ≤ 1073741824 ∧ ((1 : Int64) * (s0.toInt64) * (s1.toInt64) * (s2.toInt64)).toInt ≤ 1073741824 := by
  have c0 := c_i2l s0; have c1 := c_i2l s1; have c2 := c_i2l s2
  have k1 : (1 : Int64).toInt = 1 := by decide
  have m0 := c_lmul (1 : Int64) s0.toInt64
  have r0 := rng64 ((1 : Int64) * s0.toInt64)
  rw [k1, c0] at m0
  have e0 : ((1 : Int64) * s0.toInt64).toInt = s0.toInt := by omega
  have p1 := own_mul (by omega : 0 ≤ s0.toInt) h0.2 (by omega : 0 ≤ s1.toInt) h1.2
  have m1 := c_lmul ((1 : Int64) * s0.toInt64) s1.toInt64
  have r1 := rng64 ((1 : Int64) * s0.toInt64 * s1.toInt64)
  rw [e0, c1] at m1
  have e1 : ((1 : Int64) * s0.toInt64 * s1.toInt64).toInt = s0.toInt * s1.toInt := by omega
  have p2 := own_mul p1.1 p1.2 (by omega : 0 ≤ s2.toInt) h2.2
  have m2 := c_lmul ((1 : Int64) * s0.toInt64 * s1.toInt64) s2.toInt64
  have r2 := rng64 ((1 : Int64) * s0.toInt64 * s1.toInt64 * s2.toInt64)
  rw [e1, c2] at m2
  have e2 : ((1 : Int64) * s0.toInt64 * s1.toInt64 * s2.toInt64).toInt = s0.toInt * s1.toInt * s2.toInt := by omega
  omega
set_option maxRecDepth 65536 in
set_option maxHeartbeats 4000000 in
theorem rm0 (l : Launch) (Z : State) (a0 : Array Value) (hw : Hw a0 Z) (x0 : Int32) (x1 : Int32) (x2 : Int32) (x3 : Int32) (x4 : Int32) (x5 : Int32)  (h0 : Heap) (n0 : Nat) (Z0 : n0 ≤ h0.size)  :
    Ct l Z K0 #[(.int x0), (.int x1), (.int x2), (.int x3), (.int x4), (.int x5)] h0 n0 (fun v h => v = some (.int 1)) := by
  refine Ct.of (Ls := #[.val (.int x0), .val (.int x1), .val (.int x2), .val (.int x3), .val (.int x4), .val (.int x5), .unset, .unset, .unset, .unset, .unset, .unset, .unset, .unset, .unset, .unset, .unset, .unset, .unset, .unset, .unset]) (plainFor_of_name (by first | decide +kernel | (simp [plainName, overriddenIn]; done))) (fun m => by show entryFrame m #[(.int x0), (.int x1), (.int x2), (.int x3), (.int x4), (.int x5)] 21 = _; simp [entryFrame, mkF, argsToLocals, Value.category]) ?_
  intro E T W
  refine go_iloadN (pc' := 1) W d0_0 rfl rfl ?_
  refine go_bipush (pc' := 3) (z := 15) W d0_1 (by decide) rfl ?_
  refine go_iand (pc' := 4) W d0_3 rfl ?_
  refine go_iconst (pc' := 5) (z := 1) W d0_4 rfl rfl ?_
  refine go_iadd (pc' := 6) W d0_5 rfl ?_
  refine go_istore (pc' := 8) (l' := #[.val (.int x0), .val (.int x1), .val (.int x2), .val (.int x3), .val (.int x4), .val (.int x5), .val (.int ((x0 &&& (15 : Int32)) + (1 : Int32))), .unset, .unset, .unset, .unset, .unset, .unset, .unset, .unset, .unset, .unset, .unset, .unset, .unset, .unset]) W d0_6 rfl rfl ?_
  refine go_iloadN (pc' := 9) W d0_8 rfl rfl ?_
  refine go_bipush (pc' := 11) (z := 15) W d0_9 (by decide) rfl ?_
  refine go_iand (pc' := 12) W d0_11 rfl ?_
  refine go_iconst (pc' := 13) (z := 1) W d0_12 rfl rfl ?_
  refine go_iadd (pc' := 14) W d0_13 rfl ?_
  refine go_istore (pc' := 16) (l' := #[.val (.int x0), .val (.int x1), .val (.int x2), .val (.int x3), .val (.int x4), .val (.int x5), .val (.int ((x0 &&& (15 : Int32)) + (1 : Int32))), .val (.int ((x1 &&& (15 : Int32)) + (1 : Int32))), .unset, .unset, .unset, .unset, .unset, .unset, .unset, .unset, .unset, .unset, .unset, .unset, .unset]) W d0_14 rfl rfl ?_
  refine go_iloadN (pc' := 17) W d0_16 rfl rfl ?_
  refine go_bipush (pc' := 19) (z := 15) W d0_17 (by decide) rfl ?_
  refine go_iand (pc' := 20) W d0_19 rfl ?_
  refine go_iconst (pc' := 21) (z := 1) W d0_20 rfl rfl ?_
  refine go_iadd (pc' := 22) W d0_21 rfl ?_
  refine go_istore (pc' := 24) (l' := #[.val (.int x0), .val (.int x1), .val (.int x2), .val (.int x3), .val (.int x4), .val (.int x5), .val (.int ((x0 &&& (15 : Int32)) + (1 : Int32))), .val (.int ((x1 &&& (15 : Int32)) + (1 : Int32))), .val (.int ((x2 &&& (15 : Int32)) + (1 : Int32))), .unset, .unset, .unset, .unset, .unset, .unset, .unset, .unset, .unset, .unset, .unset, .unset]) W d0_22 rfl rfl ?_
  refine go_iloadN (pc' := 25) W d0_24 rfl rfl ?_
  refine go_ldcInt (pc' := 27) W (w0 hw) d0_25 rfl ?_
  refine go_iand (pc' := 28) W d0_27 rfl ?_
  refine go_iload (pc' := 30) W d0_28 rfl rfl ?_
  refine go_irem (pc' := 31) W d0_30 (own_snz _) rfl ?_
  refine go_istore (pc' := 33) (l' := #[.val (.int x0), .val (.int x1), .val (.int x2), .val (.int x3), .val (.int x4), .val (.int x5), .val (.int ((x0 &&& (15 : Int32)) + (1 : Int32))), .val (.int ((x1 &&& (15 : Int32)) + (1 : Int32))), .val (.int ((x2 &&& (15 : Int32)) + (1 : Int32))), .val (.int ((x3 &&& (2147483647 : Int32)) % ((x0 &&& (15 : Int32)) + (1 : Int32)))), .unset, .unset, .unset, .unset, .unset, .unset, .unset, .unset, .unset, .unset, .unset]) W d0_31 rfl rfl ?_
  refine go_iload (pc' := 35) W d0_33 rfl rfl ?_
  refine go_ldcInt (pc' := 37) W (w0 hw) d0_35 rfl ?_
  refine go_iand (pc' := 38) W d0_37 rfl ?_
  refine go_iload (pc' := 40) W d0_38 rfl rfl ?_
  refine go_irem (pc' := 41) W d0_40 (own_snz _) rfl ?_
  refine go_istore (pc' := 43) (l' := #[.val (.int x0), .val (.int x1), .val (.int x2), .val (.int x3), .val (.int x4), .val (.int x5), .val (.int ((x0 &&& (15 : Int32)) + (1 : Int32))), .val (.int ((x1 &&& (15 : Int32)) + (1 : Int32))), .val (.int ((x2 &&& (15 : Int32)) + (1 : Int32))), .val (.int ((x3 &&& (2147483647 : Int32)) % ((x0 &&& (15 : Int32)) + (1 : Int32)))), .val (.int ((x4 &&& (2147483647 : Int32)) % ((x1 &&& (15 : Int32)) + (1 : Int32)))), .unset, .unset, .unset, .unset, .unset, .unset, .unset, .unset, .unset, .unset]) W d0_41 rfl rfl ?_
  refine go_iload (pc' := 45) W d0_43 rfl rfl ?_
  refine go_ldcInt (pc' := 47) W (w0 hw) d0_45 rfl ?_
  refine go_iand (pc' := 48) W d0_47 rfl ?_
  refine go_iload (pc' := 50) W d0_48 rfl rfl ?_
  refine go_irem (pc' := 51) W d0_50 (own_snz _) rfl ?_
  refine go_istore (pc' := 53) (l' := #[.val (.int x0), .val (.int x1), .val (.int x2), .val (.int x3), .val (.int x4), .val (.int x5), .val (.int ((x0 &&& (15 : Int32)) + (1 : Int32))), .val (.int ((x1 &&& (15 : Int32)) + (1 : Int32))), .val (.int ((x2 &&& (15 : Int32)) + (1 : Int32))), .val (.int ((x3 &&& (2147483647 : Int32)) % ((x0 &&& (15 : Int32)) + (1 : Int32)))), .val (.int ((x4 &&& (2147483647 : Int32)) % ((x1 &&& (15 : Int32)) + (1 : Int32)))), .val (.int ((x5 &&& (2147483647 : Int32)) % ((x2 &&& (15 : Int32)) + (1 : Int32)))), .unset, .unset, .unset, .unset, .unset, .unset, .unset, .unset, .unset]) W d0_51 rfl rfl ?_
  have hs0 := own_sb x0
  generalize ((x3 &&& (2147483647 : Int32)) % ((x0 &&& (15 : Int32)) + (1 : Int32))) = j0
  generalize ((x0 &&& (15 : Int32)) + (1 : Int32)) = s0 at hs0 ⊢
  have hs1 := own_sb x1
  generalize ((x4 &&& (2147483647 : Int32)) % ((x1 &&& (15 : Int32)) + (1 : Int32))) = j1
  generalize ((x1 &&& (15 : Int32)) + (1 : Int32)) = s1 at hs1 ⊢
  have hs2 := own_sb x2
  generalize ((x5 &&& (2147483647 : Int32)) % ((x2 &&& (15 : Int32)) + (1 : Int32))) = j2
  generalize ((x2 &&& (15 : Int32)) + (1 : Int32)) = s2 at hs2 ⊢
  show Go E _ (Fm E T 53 #[.val (.int x0), .val (.int x1), .val (.int x2), .val (.int x3), .val (.int x4), .val (.int x5), .val (.int s0), .val (.int s1), .val (.int s2), .val (.int j0), .val (.int j1), .val (.int j2), .unset, .unset, .unset, .unset, .unset, .unset, .unset, .unset, .unset] [])
  refine go_iconst (pc' := 54) (z := 3) W d0_53 rfl rfl ?_
  refine go_newPE (pc' := 56) (aty := .int) W (w1 hw) d0_54 (by decide) 3 (by decide) (by decide) (nb rfl) (nb rfl) (ad := "[I") (by decide) rfl ?_
  intro T196 h196 cA196 b196 g196 W196 E196 A196 X196
  have ge197 : n0 ≤ b196 := by rw [g196]; exact Z0
  have z198 := Nat.le_trans Z0 E196.1
  have f199 : Af Z h196 b196 .int 3 (fun _ => (.int (0 : Int32))) := Af.new A196 rfl
  refine go_dup (pc' := 57) W196 d0_56 rfl rfl ?_
  refine go_iconst (pc' := 58) (z := 0) W196 d0_57 rfl rfl ?_
  refine go_iconst (pc' := 59) (z := 0) W196 d0_58 rfl rfl ?_
  refine go_stIF (pc' := 60) (i := 0) W196 f199 (by decide) (by decide) ge197 d0_59 rfl ?_
  intro T200 h200 W200 R200 A200
  have f202 := X196.wr R200
  have z203 := Nat.le_trans z198 (Keep.of_wr R200).1
  refine go_dup (pc' := 61) W200 d0_60 rfl rfl ?_
  refine go_iconst (pc' := 62) (z := 1) W200 d0_61 rfl rfl ?_
  refine go_iconst (pc' := 63) (z := 1) W200 d0_62 rfl rfl ?_
  refine go_stIF (pc' := 64) (i := 1) W200 A200 (by decide) (by decide) ge197 d0_63 rfl ?_
  intro T204 h204 W204 R204 A204
  have f205 := f202.wr R204
  have z207 := Nat.le_trans z203 (Keep.of_wr R204).1
  refine go_dup (pc' := 65) W204 d0_64 rfl rfl ?_
  refine go_iconst (pc' := 66) (z := 2) W204 d0_65 rfl rfl ?_
  refine go_iconst (pc' := 67) (z := 2) W204 d0_66 rfl rfl ?_
  refine go_stIF (pc' := 68) (i := 2) W204 A204 (by decide) (by decide) ge197 d0_67 rfl ?_
  intro T208 h208 W208 R208 A208
  have f209 := f205.wr R208
  have z211 := Nat.le_trans z207 (Keep.of_wr R208).1
  refine go_astore (pc' := 70) (l' := #[.val (.int x0), .val (.int x1), .val (.int x2), .val (.int x3), .val (.int x4), .val (.int x5), .val (.int s0), .val (.int s1), .val (.int s2), .val (.int j0), .val (.int j1), .val (.int j2), .val (.ref b196), .unset, .unset, .unset, .unset, .unset, .unset, .unset, .unset]) W208 d0_68 rfl rfl rfl ?_
  refine go_iconst (pc' := 71) (z := 3) W208 d0_70 rfl rfl ?_
  refine go_newPE (pc' := 73) (aty := .int) W208 (w1 hw) d0_71 (by decide) 3 (by decide) (by decide) (nb rfl) (nb rfl) (ad := "[I") (by decide) rfl ?_
  intro T212 h212 cA212 b212 g212 W212 E212 A212 X212
  have ne213 : b196 ≠ b212 := by rw [g212]; exact Nat.ne_of_lt f209.lt
  have ge214 : n0 ≤ b212 := by rw [g212]; exact z211
  have f215 := f209.ext E212
  have f216 := A208.ext E212
  have z217 := Nat.le_trans z211 E212.1
  have f218 : Af Z h212 b212 .int 3 (fun _ => (.int (0 : Int32))) := Af.new A212 rfl
  refine go_dup (pc' := 74) W212 d0_73 rfl rfl ?_
  refine go_iconst (pc' := 75) (z := 0) W212 d0_74 rfl rfl ?_
  refine go_iload (pc' := 77) W212 d0_75 rfl rfl ?_
  refine go_stIF (pc' := 78) (i := 0) W212 f218 (by decide) (by decide) ge214 d0_77 rfl ?_
  intro T219 h219 W219 R219 A219
  have f220 := f215.wr R219
  have f221 := f216.other R219 ne213
  have f223 := X212.wr R219
  have z224 := Nat.le_trans z217 (Keep.of_wr R219).1
  refine go_dup (pc' := 79) W219 d0_78 rfl rfl ?_
  refine go_iconst (pc' := 80) (z := 1) W219 d0_79 rfl rfl ?_
  refine go_iload (pc' := 82) W219 d0_80 rfl rfl ?_
  refine go_stIF (pc' := 83) (i := 1) W219 A219 (by decide) (by decide) ge214 d0_82 rfl ?_
  intro T225 h225 W225 R225 A225
  have f226 := f220.wr R225
  have f227 := f221.other R225 ne213
  have f228 := f223.wr R225
  have z230 := Nat.le_trans z224 (Keep.of_wr R225).1
  refine go_dup (pc' := 84) W225 d0_83 rfl rfl ?_
  refine go_iconst (pc' := 85) (z := 2) W225 d0_84 rfl rfl ?_
  refine go_iload (pc' := 87) W225 d0_85 rfl rfl ?_
  refine go_stIF (pc' := 88) (i := 2) W225 A225 (by decide) (by decide) ge214 d0_87 rfl ?_
  intro T231 h231 W231 R231 A231
  have f232 := f226.wr R231
  have f233 := f227.other R231 ne213
  have f234 := f228.wr R231
  have z236 := Nat.le_trans z230 (Keep.of_wr R231).1
  refine go_astore (pc' := 90) (l' := #[.val (.int x0), .val (.int x1), .val (.int x2), .val (.int x3), .val (.int x4), .val (.int x5), .val (.int s0), .val (.int s1), .val (.int s2), .val (.int j0), .val (.int j1), .val (.int j2), .val (.ref b196), .val (.ref b212), .unset, .unset, .unset, .unset, .unset, .unset, .unset]) W231 d0_88 rfl rfl rfl ?_
  refine go_iconst (pc' := 91) (z := 3) W231 d0_90 rfl rfl ?_
  refine go_newPE (pc' := 93) (aty := .int) W231 (w1 hw) d0_91 (by decide) 3 (by decide) (by decide) (nb rfl) (nb rfl) (ad := "[I") (by decide) rfl ?_
  intro T237 h237 cA237 b237 g237 W237 E237 A237 X237
  have ne238 : b196 ≠ b237 := by rw [g237]; exact Nat.ne_of_lt f232.lt
  have ne239 : b212 ≠ b237 := by rw [g237]; exact Nat.ne_of_lt f234.lt
  have ge240 : n0 ≤ b237 := by rw [g237]; exact z236
  have f241 := f232.ext E237
  have f242 := f233.ext E237
  have f243 := f234.ext E237
  have f244 := A231.ext E237
  have z245 := Nat.le_trans z236 E237.1
  have f246 : Af Z h237 b237 .int 3 (fun _ => (.int (0 : Int32))) := Af.new A237 rfl
  refine go_dup (pc' := 94) W237 d0_93 rfl rfl ?_
  refine go_iconst (pc' := 95) (z := 0) W237 d0_94 rfl rfl ?_
  refine go_iload (pc' := 97) W237 d0_95 rfl rfl ?_
  refine go_stIF (pc' := 98) (i := 0) W237 f246 (by decide) (by decide) ge240 d0_97 rfl ?_
  intro T247 h247 W247 R247 A247
  have f248 := f241.wr R247
  have f249 := f242.other R247 ne238
  have f250 := f243.wr R247
  have f251 := f244.other R247 ne239
  have f253 := X237.wr R247
  have z254 := Nat.le_trans z245 (Keep.of_wr R247).1
  refine go_dup (pc' := 99) W247 d0_98 rfl rfl ?_
  refine go_iconst (pc' := 100) (z := 1) W247 d0_99 rfl rfl ?_
  refine go_iload (pc' := 102) W247 d0_100 rfl rfl ?_
  refine go_stIF (pc' := 103) (i := 1) W247 A247 (by decide) (by decide) ge240 d0_102 rfl ?_
  intro T255 h255 W255 R255 A255
  have f256 := f248.wr R255
  have f257 := f249.other R255 ne238
  have f258 := f250.wr R255
  have f259 := f251.other R255 ne239
  have f260 := f253.wr R255
  have z262 := Nat.le_trans z254 (Keep.of_wr R255).1
  refine go_dup (pc' := 104) W255 d0_103 rfl rfl ?_
  refine go_iconst (pc' := 105) (z := 2) W255 d0_104 rfl rfl ?_
  refine go_iload (pc' := 107) W255 d0_105 rfl rfl ?_
  refine go_stIF (pc' := 108) (i := 2) W255 A255 (by decide) (by decide) ge240 d0_107 rfl ?_
  intro T263 h263 W263 R263 A263
  have f264 := f256.wr R263
  have f265 := f257.other R263 ne238
  have f266 := f258.wr R263
  have f267 := f259.other R263 ne239
  have f268 := f260.wr R263
  have z270 := Nat.le_trans z262 (Keep.of_wr R263).1
  refine go_astore (pc' := 110) (l' := #[.val (.int x0), .val (.int x1), .val (.int x2), .val (.int x3), .val (.int x4), .val (.int x5), .val (.int s0), .val (.int s1), .val (.int s2), .val (.int j0), .val (.int j1), .val (.int j2), .val (.ref b196), .val (.ref b212), .val (.ref b237), .unset, .unset, .unset, .unset, .unset, .unset]) W263 d0_108 rfl rfl rfl ?_
  have af271 : Af Z h263 b196 .int 3 (fun i => .int ((own_g 0 1 2) i)) := f265.congr (fun j hj => by match j, hj with | 0, _ => rfl | 1, _ => rfl | 2, _ => rfl)
  have af272 : Af Z h263 b212 .int 3 (fun i => .int ((own_g s0 s1 s2) i)) := f267.congr (fun j hj => by match j, hj with | 0, _ => rfl | 1, _ => rfl | 2, _ => rfl)
  have af273 : Af Z h263 b237 .int 3 (fun i => .int ((own_g j0 j1 j2) i)) := A263.congr (fun j hj => by match j, hj with | 0, _ => rfl | 1, _ => rfl | 2, _ => rfl)
  have pr := own_prod s0 s1 s2 hs0 hs1 hs2
  refine go_new (pc' := 113) W263 (w2 hw) (w3 hw) (w4 hw) d0_110 (nb rfl) (nb rfl) rfl ?_
  intro T274 h274 b274 g274 W274 E274 A274 D274 M274
  have ne275 : b196 ≠ b274 := by rw [g274]; exact Nat.ne_of_lt f264.lt
  have ne276 : b212 ≠ b274 := by rw [g274]; exact Nat.ne_of_lt f266.lt
  have ne277 : b237 ≠ b274 := by rw [g274]; exact Nat.ne_of_lt f268.lt
  have ge278 : n0 ≤ b274 := by rw [g274]; exact z270
  have f279 := f264.ext E274
  have f280 := af271.ext E274
  have f281 := f266.ext E274
  have f282 := af272.ext E274
  have f283 := f268.ext E274
  have f284 := af273.ext E274
  have z285 := Nat.le_trans z270 E274.1
  have f286 : Fld Z h274 b274 "com/example/hushmediator/hushmediator/search/JointDomain" "members" "[I" .null := D274 (Or.inr (w21 hw)) (ty := (.array .int)) (by decide)
  have f287 : Fld Z h274 b274 "com/example/hushmediator/hushmediator/search/JointDomain" "sizes" "[I" .null := D274 (Or.inr (w23 hw)) (ty := (.array .int)) (by decide)
  have f288 : Fld Z h274 b274 "com/example/hushmediator/hushmediator/search/JointDomain" "size" "I" (.int (0 : Int32)) := D274 (Or.inr (w53 hw)) (ty := .int) (by decide)
  refine go_dup (pc' := 114) W274 d0_113 rfl rfl ?_
  refine go_aload (pc' := 116) W274 d0_114 rfl rfl rfl ?_
  refine go_aload (pc' := 118) W274 d0_116 rfl rfl rfl ?_
  refine go_callN (a := b274) (kc := K1) (argsL := [(.ref b196), (.ref b212)]) (rest := [(.ref b274)]) (pc' := 121) W274 (w5 hw) (w6 hw) (w4 hw) (w7 hw) (rm1 E.l Z a0 hw b274 b196 b212 (own_g 0 1 2) (own_g s0 s1 s2) h274 n0 z285 A274 f286 f287 f288 ge278 f280 f279 f282 f281 ne275 ne276 (own_le _ pr.1) (own_le _ pr.2.1) (own_le _ pr.2.2)) rfl rfl (by decide) pd4 rfl rfl rfl (nb rfl) (nb rfl) (nb rfl) (nb rfl) d0_118 rfl ?_
  rintro _ T289 h289 ⟨rfl, K289, e289, se289, ge289, fs289, ae289⟩ W289
  have ne290 : b196 ≠ e289 := Nat.ne_of_lt (Nat.lt_of_lt_of_le f279.lt se289)
  have ne291 : b212 ≠ e289 := Nat.ne_of_lt (Nat.lt_of_lt_of_le f281.lt se289)
  have ne292 : b237 ≠ e289 := Nat.ne_of_lt (Nat.lt_of_lt_of_le f283.lt se289)
  have ne293 : b274 ≠ e289 := Nat.ne_of_lt (Nat.lt_of_lt_of_le A274.lt se289)
  have f294 := f279.keep K289
  have f295 := f281.keep K289
  have f296 := f283.keep K289
  have f297 := A274.keep K289
  have z301 := Nat.le_trans z285 K289.1
  have f302 := f280.keep K289 (ninS ne275 nin0)
  have f303 := f282.keep K289 (ninS ne276 nin0)
  have f304 := f284.keep K289 (ninS ne277 nin0)
  show Go E _ (Fm E T289 121 #[.val (.int x0), .val (.int x1), .val (.int x2), .val (.int x3), .val (.int x4), .val (.int x5), .val (.int s0), .val (.int s1), .val (.int s2), .val (.int j0), .val (.int j1), .val (.int j2), .val (.ref b196), .val (.ref b212), .val (.ref b237), .unset, .unset, .unset, .unset, .unset, .unset] [(.ref b274)])
  refine go_astore (pc' := 123) (l' := #[.val (.int x0), .val (.int x1), .val (.int x2), .val (.int x3), .val (.int x4), .val (.int x5), .val (.int s0), .val (.int s1), .val (.int s2), .val (.int j0), .val (.int j1), .val (.int j2), .val (.ref b196), .val (.ref b212), .val (.ref b237), .val (.ref b274), .unset, .unset, .unset, .unset, .unset]) W289 d0_121 rfl rfl rfl ?_
  refine go_aload (pc' := 125) W289 d0_123 rfl rfl rfl ?_
  refine go_aload (pc' := 127) W289 d0_125 rfl rfl rfl ?_
  refine go_callV (a := b274) (kc := K7) (argsL := [(.ref b237)]) (rest := []) (pc' := 130) W289 (w54 hw) (w55 hw) (nf_sel W289 (w57 hw)) (w57 hw) (w56 hw) (w4 hw) (w58 hw) f297 (rm7 E.l Z a0 hw b274 b237 e289 (own_g s0 s1 s2) (own_g j0 j1 j2) h289 n0 z301 fs289 ae289 f304 (Ne.symm ne292) (Ne.symm ne277) ge240) (by decide) pd5 rfl rfl rfl (nb rfl) (nb rfl) (nb rfl) (nb rfl) d0_127 rfl ?_
  rintro _ T305 h305 ⟨rfl, K305, ar305⟩ W305
  show Go E _ (Fm E T305 130 #[.val (.int x0), .val (.int x1), .val (.int x2), .val (.int x3), .val (.int x4), .val (.int x5), .val (.int s0), .val (.int s1), .val (.int s2), .val (.int j0), .val (.int j1), .val (.int j2), .val (.ref b196), .val (.ref b212), .val (.ref b237), .val (.ref b274), .unset, .unset, .unset, .unset, .unset] [(.int (own_adv j0 j1 j2 s0 s1 s2).1)])
  refine go_istore (pc' := 132) (l' := #[.val (.int x0), .val (.int x1), .val (.int x2), .val (.int x3), .val (.int x4), .val (.int x5), .val (.int s0), .val (.int s1), .val (.int s2), .val (.int j0), .val (.int j1), .val (.int j2), .val (.ref b196), .val (.ref b212), .val (.ref b237), .val (.ref b274), .val (.int (own_adv j0 j1 j2 s0 s1 s2).1), .unset, .unset, .unset, .unset]) W305 d0_130 rfl rfl ?_
  refine go_iload (pc' := 134) W305 d0_132 rfl rfl ?_
  refine go_iconst (pc' := 135) (z := 1) W305 d0_134 rfl rfl ?_
  refine go_iadd (pc' := 136) W305 d0_135 rfl ?_
  refine go_iload (pc' := 138) W305 d0_136 rfl rfl ?_
  refine go_icmp_ge (pt := 161) (pf := 141) W305 d0_138 (by decide) rfl rfl (fun c138_306 => ?_) (fun c138_306 => ?_)
  · -- pc 138 taken
    refine go_iload (pc' := 163) W305 d0_161 rfl rfl ?_
    refine go_iconst (pc' := 164) (z := 1) W305 d0_163 rfl rfl ?_
    refine go_iadd (pc' := 165) W305 d0_164 rfl ?_
    refine go_iload (pc' := 167) W305 d0_165 rfl rfl ?_
    refine go_icmp_ge (pt := 189) (pf := 170) W305 d0_167 (by decide) rfl rfl (fun c167_307 => ?_) (fun c167_307 => ?_)
    · -- pc 167 taken
      refine go_iload (pc' := 191) W305 d0_189 rfl rfl ?_
      refine go_iconst (pc' := 192) (z := 1) W305 d0_191 rfl rfl ?_
      refine go_iadd (pc' := 193) W305 d0_192 rfl ?_
      refine go_iload (pc' := 195) W305 d0_193 rfl rfl ?_
      refine go_icmp_ge (pt := 216) (pf := 198) W305 d0_195 (by decide) rfl rfl (fun c195_308 => ?_) (fun c195_308 => ?_)
      · -- pc 195 taken
        refine go_iconst (pc' := 217) (z := 0) W305 d0_216 rfl rfl ?_
        refine go_istore (pc' := 219) (l' := #[.val (.int x0), .val (.int x1), .val (.int x2), .val (.int x3), .val (.int x4), .val (.int x5), .val (.int s0), .val (.int s1), .val (.int s2), .val (.int j0), .val (.int j1), .val (.int j2), .val (.ref b196), .val (.ref b212), .val (.ref b237), .val (.ref b274), .val (.int (own_adv j0 j1 j2 s0 s1 s2).1), .val (.int (0 : Int32)), .unset, .unset, .unset]) W305 d0_217 rfl rfl ?_
        refine go_iconst (pc' := 220) (z := 0) W305 d0_219 rfl rfl ?_
        refine go_istore (pc' := 222) (l' := #[.val (.int x0), .val (.int x1), .val (.int x2), .val (.int x3), .val (.int x4), .val (.int x5), .val (.int s0), .val (.int s1), .val (.int s2), .val (.int j0), .val (.int j1), .val (.int j2), .val (.ref b196), .val (.ref b212), .val (.ref b237), .val (.ref b274), .val (.int (own_adv j0 j1 j2 s0 s1 s2).1), .val (.int (0 : Int32)), .val (.int (0 : Int32)), .unset, .unset]) W305 d0_220 rfl rfl ?_
        refine go_iconst (pc' := 223) (z := 0) W305 d0_222 rfl rfl ?_
        refine go_istore (pc' := 225) (l' := #[.val (.int x0), .val (.int x1), .val (.int x2), .val (.int x3), .val (.int x4), .val (.int x5), .val (.int s0), .val (.int s1), .val (.int s2), .val (.int j0), .val (.int j1), .val (.int j2), .val (.ref b196), .val (.ref b212), .val (.ref b237), .val (.ref b274), .val (.int (own_adv j0 j1 j2 s0 s1 s2).1), .val (.int (0 : Int32)), .val (.int (0 : Int32)), .val (.int (0 : Int32)), .unset]) W305 d0_223 rfl rfl ?_
        refine go_iconst (pc' := 226) (z := 0) W305 d0_225 rfl rfl ?_
        refine go_istore (pc' := 228) (l' := #[.val (.int x0), .val (.int x1), .val (.int x2), .val (.int x3), .val (.int x4), .val (.int x5), .val (.int s0), .val (.int s1), .val (.int s2), .val (.int j0), .val (.int j1), .val (.int j2), .val (.ref b196), .val (.ref b212), .val (.ref b237), .val (.ref b274), .val (.int (own_adv j0 j1 j2 s0 s1 s2).1), .val (.int (0 : Int32)), .val (.int (0 : Int32)), .val (.int (0 : Int32)), .val (.int (0 : Int32))]) W305 d0_226 rfl rfl ?_
        refine go_iload (pc' := 230) W305 d0_228 rfl rfl ?_
        refine go_iload (pc' := 232) W305 d0_230 rfl rfl ?_
        refine go_icmp_ne (pt := 273) (pf := 235) W305 d0_232 (by decide) rfl rfl (fun c232_309 => ?_) (fun c232_309 => ?_)
        · exact absurd (by simp [own_adv, c138_306, c167_307, c195_308]) c232_309
        · -- pc 232 not taken
          refine go_aload (pc' := 237) W305 d0_235 rfl rfl rfl ?_
          refine go_lenF (pc' := 238) (z := (3 : Int32)) W305 ar305 rfl d0_237 rfl ?_
          refine go_iconst (pc' := 239) (z := 3) W305 d0_238 rfl rfl ?_
          refine go_icmp_ne (pt := 273) (pf := 242) W305 d0_239 (by decide) rfl rfl (fun c239_310 => ?_) (fun c239_310 => ?_)
          · exact absurd c239_310 (by decide)
          · -- pc 239 not taken
            refine go_aload (pc' := 244) W305 d0_242 rfl rfl rfl ?_
            refine go_iconst (pc' := 245) (z := 0) W305 d0_244 rfl rfl ?_
            refine go_ialoadF (pc' := 246) (i := 0) (v := (.int (own_adv j0 j1 j2 s0 s1 s2).2.1)) W305 ar305 (by decide) (by decide) rfl d0_245 rfl ?_
            refine go_iload (pc' := 248) W305 d0_246 rfl rfl ?_
            refine go_icmp_ne (pt := 273) (pf := 251) W305 d0_248 (by decide) rfl rfl (fun c248_311 => ?_) (fun c248_311 => ?_)
            · exact absurd (by simp [own_adv, c138_306, c167_307, c195_308]) c248_311
            · -- pc 248 not taken
              refine go_aload (pc' := 253) W305 d0_251 rfl rfl rfl ?_
              refine go_iconst (pc' := 254) (z := 1) W305 d0_253 rfl rfl ?_
              refine go_ialoadF (pc' := 255) (i := 1) (v := (.int (own_adv j0 j1 j2 s0 s1 s2).2.2.1)) W305 ar305 (by decide) (by decide) rfl d0_254 rfl ?_
              refine go_iload (pc' := 257) W305 d0_255 rfl rfl ?_
              refine go_icmp_ne (pt := 273) (pf := 260) W305 d0_257 (by decide) rfl rfl (fun c257_312 => ?_) (fun c257_312 => ?_)
              · exact absurd (by simp [own_adv, c138_306, c167_307, c195_308]) c257_312
              · -- pc 257 not taken
                refine go_aload (pc' := 262) W305 d0_260 rfl rfl rfl ?_
                refine go_iconst (pc' := 263) (z := 2) W305 d0_262 rfl rfl ?_
                refine go_ialoadF (pc' := 264) (i := 2) (v := (.int (own_adv j0 j1 j2 s0 s1 s2).2.2.2)) W305 ar305 (by decide) (by decide) rfl d0_263 rfl ?_
                refine go_iload (pc' := 266) W305 d0_264 rfl rfl ?_
                refine go_icmp_ne (pt := 273) (pf := 269) W305 d0_266 (by decide) rfl rfl (fun c266_313 => ?_) (fun c266_313 => ?_)
                · exact absurd (by simp [own_adv, c138_306, c167_307, c195_308]) c266_313
                · -- pc 266 not taken
                  refine go_iconst (pc' := 270) (z := 1) W305 d0_269 rfl rfl ?_
                  refine go_goto (pc' := 274) W305 d0_270 (by decide) rfl ?_
                  exact go_retI W305 (t := .boolean) rfl (by simp) rfl d0_274 (nb rfl) (nb rfl) (rfl)
      · -- pc 195 not taken
        refine go_iload (pc' := 200) W305 d0_198 rfl rfl ?_
        refine go_iconst (pc' := 201) (z := 1) W305 d0_200 rfl rfl ?_
        refine go_iadd (pc' := 202) W305 d0_201 rfl ?_
        refine go_istore (pc' := 204) (l' := #[.val (.int x0), .val (.int x1), .val (.int x2), .val (.int x3), .val (.int x4), .val (.int x5), .val (.int s0), .val (.int s1), .val (.int s2), .val (.int j0), .val (.int j1), .val (.int j2), .val (.ref b196), .val (.ref b212), .val (.ref b237), .val (.ref b274), .val (.int (own_adv j0 j1 j2 s0 s1 s2).1), .val (.int (j0 + (1 : Int32))), .unset, .unset, .unset]) W305 d0_202 rfl rfl ?_
        refine go_iconst (pc' := 205) (z := 0) W305 d0_204 rfl rfl ?_
        refine go_istore (pc' := 207) (l' := #[.val (.int x0), .val (.int x1), .val (.int x2), .val (.int x3), .val (.int x4), .val (.int x5), .val (.int s0), .val (.int s1), .val (.int s2), .val (.int j0), .val (.int j1), .val (.int j2), .val (.ref b196), .val (.ref b212), .val (.ref b237), .val (.ref b274), .val (.int (own_adv j0 j1 j2 s0 s1 s2).1), .val (.int (j0 + (1 : Int32))), .val (.int (0 : Int32)), .unset, .unset]) W305 d0_205 rfl rfl ?_
        refine go_iconst (pc' := 208) (z := 0) W305 d0_207 rfl rfl ?_
        refine go_istore (pc' := 210) (l' := #[.val (.int x0), .val (.int x1), .val (.int x2), .val (.int x3), .val (.int x4), .val (.int x5), .val (.int s0), .val (.int s1), .val (.int s2), .val (.int j0), .val (.int j1), .val (.int j2), .val (.ref b196), .val (.ref b212), .val (.ref b237), .val (.ref b274), .val (.int (own_adv j0 j1 j2 s0 s1 s2).1), .val (.int (j0 + (1 : Int32))), .val (.int (0 : Int32)), .val (.int (0 : Int32)), .unset]) W305 d0_208 rfl rfl ?_
        refine go_iconst (pc' := 211) (z := 1) W305 d0_210 rfl rfl ?_
        refine go_istore (pc' := 213) (l' := #[.val (.int x0), .val (.int x1), .val (.int x2), .val (.int x3), .val (.int x4), .val (.int x5), .val (.int s0), .val (.int s1), .val (.int s2), .val (.int j0), .val (.int j1), .val (.int j2), .val (.ref b196), .val (.ref b212), .val (.ref b237), .val (.ref b274), .val (.int (own_adv j0 j1 j2 s0 s1 s2).1), .val (.int (j0 + (1 : Int32))), .val (.int (0 : Int32)), .val (.int (0 : Int32)), .val (.int (1 : Int32))]) W305 d0_211 rfl rfl ?_
        refine go_goto (pc' := 228) W305 d0_213 (by decide) rfl ?_
        refine go_iload (pc' := 230) W305 d0_228 rfl rfl ?_
        refine go_iload (pc' := 232) W305 d0_230 rfl rfl ?_
        refine go_icmp_ne (pt := 273) (pf := 235) W305 d0_232 (by decide) rfl rfl (fun c232_314 => ?_) (fun c232_314 => ?_)
        · exact absurd (by simp [own_adv, c138_306, c167_307, c195_308]) c232_314
        · -- pc 232 not taken
          refine go_aload (pc' := 237) W305 d0_235 rfl rfl rfl ?_
          refine go_lenF (pc' := 238) (z := (3 : Int32)) W305 ar305 rfl d0_237 rfl ?_
          refine go_iconst (pc' := 239) (z := 3) W305 d0_238 rfl rfl ?_
          refine go_icmp_ne (pt := 273) (pf := 242) W305 d0_239 (by decide) rfl rfl (fun c239_315 => ?_) (fun c239_315 => ?_)
          · exact absurd c239_315 (by decide)
          · -- pc 239 not taken
            refine go_aload (pc' := 244) W305 d0_242 rfl rfl rfl ?_
            refine go_iconst (pc' := 245) (z := 0) W305 d0_244 rfl rfl ?_
            refine go_ialoadF (pc' := 246) (i := 0) (v := (.int (own_adv j0 j1 j2 s0 s1 s2).2.1)) W305 ar305 (by decide) (by decide) rfl d0_245 rfl ?_
            refine go_iload (pc' := 248) W305 d0_246 rfl rfl ?_
            refine go_icmp_ne (pt := 273) (pf := 251) W305 d0_248 (by decide) rfl rfl (fun c248_316 => ?_) (fun c248_316 => ?_)
            · exact absurd (by simp [own_adv, c138_306, c167_307, c195_308]) c248_316
            · -- pc 248 not taken
              refine go_aload (pc' := 253) W305 d0_251 rfl rfl rfl ?_
              refine go_iconst (pc' := 254) (z := 1) W305 d0_253 rfl rfl ?_
              refine go_ialoadF (pc' := 255) (i := 1) (v := (.int (own_adv j0 j1 j2 s0 s1 s2).2.2.1)) W305 ar305 (by decide) (by decide) rfl d0_254 rfl ?_
              refine go_iload (pc' := 257) W305 d0_255 rfl rfl ?_
              refine go_icmp_ne (pt := 273) (pf := 260) W305 d0_257 (by decide) rfl rfl (fun c257_317 => ?_) (fun c257_317 => ?_)
              · exact absurd (by simp [own_adv, c138_306, c167_307, c195_308]) c257_317
              · -- pc 257 not taken
                refine go_aload (pc' := 262) W305 d0_260 rfl rfl rfl ?_
                refine go_iconst (pc' := 263) (z := 2) W305 d0_262 rfl rfl ?_
                refine go_ialoadF (pc' := 264) (i := 2) (v := (.int (own_adv j0 j1 j2 s0 s1 s2).2.2.2)) W305 ar305 (by decide) (by decide) rfl d0_263 rfl ?_
                refine go_iload (pc' := 266) W305 d0_264 rfl rfl ?_
                refine go_icmp_ne (pt := 273) (pf := 269) W305 d0_266 (by decide) rfl rfl (fun c266_318 => ?_) (fun c266_318 => ?_)
                · exact absurd (by simp [own_adv, c138_306, c167_307, c195_308]) c266_318
                · -- pc 266 not taken
                  refine go_iconst (pc' := 270) (z := 1) W305 d0_269 rfl rfl ?_
                  refine go_goto (pc' := 274) W305 d0_270 (by decide) rfl ?_
                  exact go_retI W305 (t := .boolean) rfl (by simp) rfl d0_274 (nb rfl) (nb rfl) (rfl)
    · -- pc 167 not taken
      refine go_iload (pc' := 172) W305 d0_170 rfl rfl ?_
      refine go_istore (pc' := 174) (l' := #[.val (.int x0), .val (.int x1), .val (.int x2), .val (.int x3), .val (.int x4), .val (.int x5), .val (.int s0), .val (.int s1), .val (.int s2), .val (.int j0), .val (.int j1), .val (.int j2), .val (.ref b196), .val (.ref b212), .val (.ref b237), .val (.ref b274), .val (.int (own_adv j0 j1 j2 s0 s1 s2).1), .val (.int j0), .unset, .unset, .unset]) W305 d0_172 rfl rfl ?_
      refine go_iload (pc' := 176) W305 d0_174 rfl rfl ?_
      refine go_iconst (pc' := 177) (z := 1) W305 d0_176 rfl rfl ?_
      refine go_iadd (pc' := 178) W305 d0_177 rfl ?_
      refine go_istore (pc' := 180) (l' := #[.val (.int x0), .val (.int x1), .val (.int x2), .val (.int x3), .val (.int x4), .val (.int x5), .val (.int s0), .val (.int s1), .val (.int s2), .val (.int j0), .val (.int j1), .val (.int j2), .val (.ref b196), .val (.ref b212), .val (.ref b237), .val (.ref b274), .val (.int (own_adv j0 j1 j2 s0 s1 s2).1), .val (.int j0), .val (.int (j1 + (1 : Int32))), .unset, .unset]) W305 d0_178 rfl rfl ?_
      refine go_iconst (pc' := 181) (z := 0) W305 d0_180 rfl rfl ?_
      refine go_istore (pc' := 183) (l' := #[.val (.int x0), .val (.int x1), .val (.int x2), .val (.int x3), .val (.int x4), .val (.int x5), .val (.int s0), .val (.int s1), .val (.int s2), .val (.int j0), .val (.int j1), .val (.int j2), .val (.ref b196), .val (.ref b212), .val (.ref b237), .val (.ref b274), .val (.int (own_adv j0 j1 j2 s0 s1 s2).1), .val (.int j0), .val (.int (j1 + (1 : Int32))), .val (.int (0 : Int32)), .unset]) W305 d0_181 rfl rfl ?_
      refine go_iconst (pc' := 184) (z := 1) W305 d0_183 rfl rfl ?_
      refine go_istore (pc' := 186) (l' := #[.val (.int x0), .val (.int x1), .val (.int x2), .val (.int x3), .val (.int x4), .val (.int x5), .val (.int s0), .val (.int s1), .val (.int s2), .val (.int j0), .val (.int j1), .val (.int j2), .val (.ref b196), .val (.ref b212), .val (.ref b237), .val (.ref b274), .val (.int (own_adv j0 j1 j2 s0 s1 s2).1), .val (.int j0), .val (.int (j1 + (1 : Int32))), .val (.int (0 : Int32)), .val (.int (1 : Int32))]) W305 d0_184 rfl rfl ?_
      refine go_goto (pc' := 228) W305 d0_186 (by decide) rfl ?_
      refine go_iload (pc' := 230) W305 d0_228 rfl rfl ?_
      refine go_iload (pc' := 232) W305 d0_230 rfl rfl ?_
      refine go_icmp_ne (pt := 273) (pf := 235) W305 d0_232 (by decide) rfl rfl (fun c232_319 => ?_) (fun c232_319 => ?_)
      · exact absurd (by simp [own_adv, c138_306, c167_307]) c232_319
      · -- pc 232 not taken
        refine go_aload (pc' := 237) W305 d0_235 rfl rfl rfl ?_
        refine go_lenF (pc' := 238) (z := (3 : Int32)) W305 ar305 rfl d0_237 rfl ?_
        refine go_iconst (pc' := 239) (z := 3) W305 d0_238 rfl rfl ?_
        refine go_icmp_ne (pt := 273) (pf := 242) W305 d0_239 (by decide) rfl rfl (fun c239_320 => ?_) (fun c239_320 => ?_)
        · exact absurd c239_320 (by decide)
        · -- pc 239 not taken
          refine go_aload (pc' := 244) W305 d0_242 rfl rfl rfl ?_
          refine go_iconst (pc' := 245) (z := 0) W305 d0_244 rfl rfl ?_
          refine go_ialoadF (pc' := 246) (i := 0) (v := (.int (own_adv j0 j1 j2 s0 s1 s2).2.1)) W305 ar305 (by decide) (by decide) rfl d0_245 rfl ?_
          refine go_iload (pc' := 248) W305 d0_246 rfl rfl ?_
          refine go_icmp_ne (pt := 273) (pf := 251) W305 d0_248 (by decide) rfl rfl (fun c248_321 => ?_) (fun c248_321 => ?_)
          · exact absurd (by simp [own_adv, c138_306, c167_307]) c248_321
          · -- pc 248 not taken
            refine go_aload (pc' := 253) W305 d0_251 rfl rfl rfl ?_
            refine go_iconst (pc' := 254) (z := 1) W305 d0_253 rfl rfl ?_
            refine go_ialoadF (pc' := 255) (i := 1) (v := (.int (own_adv j0 j1 j2 s0 s1 s2).2.2.1)) W305 ar305 (by decide) (by decide) rfl d0_254 rfl ?_
            refine go_iload (pc' := 257) W305 d0_255 rfl rfl ?_
            refine go_icmp_ne (pt := 273) (pf := 260) W305 d0_257 (by decide) rfl rfl (fun c257_322 => ?_) (fun c257_322 => ?_)
            · exact absurd (by simp [own_adv, c138_306, c167_307]) c257_322
            · -- pc 257 not taken
              refine go_aload (pc' := 262) W305 d0_260 rfl rfl rfl ?_
              refine go_iconst (pc' := 263) (z := 2) W305 d0_262 rfl rfl ?_
              refine go_ialoadF (pc' := 264) (i := 2) (v := (.int (own_adv j0 j1 j2 s0 s1 s2).2.2.2)) W305 ar305 (by decide) (by decide) rfl d0_263 rfl ?_
              refine go_iload (pc' := 266) W305 d0_264 rfl rfl ?_
              refine go_icmp_ne (pt := 273) (pf := 269) W305 d0_266 (by decide) rfl rfl (fun c266_323 => ?_) (fun c266_323 => ?_)
              · exact absurd (by simp [own_adv, c138_306, c167_307]) c266_323
              · -- pc 266 not taken
                refine go_iconst (pc' := 270) (z := 1) W305 d0_269 rfl rfl ?_
                refine go_goto (pc' := 274) W305 d0_270 (by decide) rfl ?_
                exact go_retI W305 (t := .boolean) rfl (by simp) rfl d0_274 (nb rfl) (nb rfl) (rfl)
  · -- pc 138 not taken
    refine go_iload (pc' := 143) W305 d0_141 rfl rfl ?_
    refine go_istore (pc' := 145) (l' := #[.val (.int x0), .val (.int x1), .val (.int x2), .val (.int x3), .val (.int x4), .val (.int x5), .val (.int s0), .val (.int s1), .val (.int s2), .val (.int j0), .val (.int j1), .val (.int j2), .val (.ref b196), .val (.ref b212), .val (.ref b237), .val (.ref b274), .val (.int (own_adv j0 j1 j2 s0 s1 s2).1), .val (.int j0), .unset, .unset, .unset]) W305 d0_143 rfl rfl ?_
    refine go_iload (pc' := 147) W305 d0_145 rfl rfl ?_
    refine go_istore (pc' := 149) (l' := #[.val (.int x0), .val (.int x1), .val (.int x2), .val (.int x3), .val (.int x4), .val (.int x5), .val (.int s0), .val (.int s1), .val (.int s2), .val (.int j0), .val (.int j1), .val (.int j2), .val (.ref b196), .val (.ref b212), .val (.ref b237), .val (.ref b274), .val (.int (own_adv j0 j1 j2 s0 s1 s2).1), .val (.int j0), .val (.int j1), .unset, .unset]) W305 d0_147 rfl rfl ?_
    refine go_iload (pc' := 151) W305 d0_149 rfl rfl ?_
    refine go_iconst (pc' := 152) (z := 1) W305 d0_151 rfl rfl ?_
    refine go_iadd (pc' := 153) W305 d0_152 rfl ?_
    refine go_istore (pc' := 155) (l' := #[.val (.int x0), .val (.int x1), .val (.int x2), .val (.int x3), .val (.int x4), .val (.int x5), .val (.int s0), .val (.int s1), .val (.int s2), .val (.int j0), .val (.int j1), .val (.int j2), .val (.ref b196), .val (.ref b212), .val (.ref b237), .val (.ref b274), .val (.int (own_adv j0 j1 j2 s0 s1 s2).1), .val (.int j0), .val (.int j1), .val (.int (j2 + (1 : Int32))), .unset]) W305 d0_153 rfl rfl ?_
    refine go_iconst (pc' := 156) (z := 1) W305 d0_155 rfl rfl ?_
    refine go_istore (pc' := 158) (l' := #[.val (.int x0), .val (.int x1), .val (.int x2), .val (.int x3), .val (.int x4), .val (.int x5), .val (.int s0), .val (.int s1), .val (.int s2), .val (.int j0), .val (.int j1), .val (.int j2), .val (.ref b196), .val (.ref b212), .val (.ref b237), .val (.ref b274), .val (.int (own_adv j0 j1 j2 s0 s1 s2).1), .val (.int j0), .val (.int j1), .val (.int (j2 + (1 : Int32))), .val (.int (1 : Int32))]) W305 d0_156 rfl rfl ?_
    refine go_goto (pc' := 228) W305 d0_158 (by decide) rfl ?_
    refine go_iload (pc' := 230) W305 d0_228 rfl rfl ?_
    refine go_iload (pc' := 232) W305 d0_230 rfl rfl ?_
    refine go_icmp_ne (pt := 273) (pf := 235) W305 d0_232 (by decide) rfl rfl (fun c232_324 => ?_) (fun c232_324 => ?_)
    · exact absurd (by simp [own_adv, c138_306]) c232_324
    · -- pc 232 not taken
      refine go_aload (pc' := 237) W305 d0_235 rfl rfl rfl ?_
      refine go_lenF (pc' := 238) (z := (3 : Int32)) W305 ar305 rfl d0_237 rfl ?_
      refine go_iconst (pc' := 239) (z := 3) W305 d0_238 rfl rfl ?_
      refine go_icmp_ne (pt := 273) (pf := 242) W305 d0_239 (by decide) rfl rfl (fun c239_325 => ?_) (fun c239_325 => ?_)
      · exact absurd c239_325 (by decide)
      · -- pc 239 not taken
        refine go_aload (pc' := 244) W305 d0_242 rfl rfl rfl ?_
        refine go_iconst (pc' := 245) (z := 0) W305 d0_244 rfl rfl ?_
        refine go_ialoadF (pc' := 246) (i := 0) (v := (.int (own_adv j0 j1 j2 s0 s1 s2).2.1)) W305 ar305 (by decide) (by decide) rfl d0_245 rfl ?_
        refine go_iload (pc' := 248) W305 d0_246 rfl rfl ?_
        refine go_icmp_ne (pt := 273) (pf := 251) W305 d0_248 (by decide) rfl rfl (fun c248_326 => ?_) (fun c248_326 => ?_)
        · exact absurd (by simp [own_adv, c138_306]) c248_326
        · -- pc 248 not taken
          refine go_aload (pc' := 253) W305 d0_251 rfl rfl rfl ?_
          refine go_iconst (pc' := 254) (z := 1) W305 d0_253 rfl rfl ?_
          refine go_ialoadF (pc' := 255) (i := 1) (v := (.int (own_adv j0 j1 j2 s0 s1 s2).2.2.1)) W305 ar305 (by decide) (by decide) rfl d0_254 rfl ?_
          refine go_iload (pc' := 257) W305 d0_255 rfl rfl ?_
          refine go_icmp_ne (pt := 273) (pf := 260) W305 d0_257 (by decide) rfl rfl (fun c257_327 => ?_) (fun c257_327 => ?_)
          · exact absurd (by simp [own_adv, c138_306]) c257_327
          · -- pc 257 not taken
            refine go_aload (pc' := 262) W305 d0_260 rfl rfl rfl ?_
            refine go_iconst (pc' := 263) (z := 2) W305 d0_262 rfl rfl ?_
            refine go_ialoadF (pc' := 264) (i := 2) (v := (.int (own_adv j0 j1 j2 s0 s1 s2).2.2.2)) W305 ar305 (by decide) (by decide) rfl d0_263 rfl ?_
            refine go_iload (pc' := 266) W305 d0_264 rfl rfl ?_
            refine go_icmp_ne (pt := 273) (pf := 269) W305 d0_266 (by decide) rfl rfl (fun c266_328 => ?_) (fun c266_328 => ?_)
            · exact absurd (by simp [own_adv, c138_306]) c266_328
            · -- pc 266 not taken
              refine go_iconst (pc' := 270) (z := 1) W305 d0_269 rfl rfl ?_
              refine go_goto (pc' := 274) W305 d0_270 (by decide) rfl ?_
              exact go_retI W305 (t := .boolean) rfl (by simp) rfl d0_274 (nb rfl) (nb rfl) (rfl)
set_option maxRecDepth 65536 in
theorem comes_1 {Post : Tables → Env → Array Value → State → Outcome → State → Prop} (hpost : ∀ tb e args s v u, (limb_1_1.after args s (.returned v) u = true ∧ limb_1_2.after args s (.returned v) u = true) → ReturnedEndW s (.returned v) u (Jvm.fieldLocs frame_1_writes args s ++ Jvm.arrayLocs frame_1_arrays args s ++ Jvm.staticLocs frame_1_statics s) 24 128 → Post tb e args s (.returned v) u) :
    ArmFor flags0 classFile x code maxLocals ret World_1 tables_1 room_1 Calls_1 rest_1 Pre_1 Post := by
  intro l hfl _ _ p e ha hc hk s m args below hf hA hF happ hP
  obtain ⟨hcalls, hrest, hpre⟩ := hP
  obtain ⟨-, -, -, hnamed, -, -, -, hat⟩ := (Spec.applies_iff hf).mp happ
  obtain ⟨hg, hn⟩ := and_e (Cond.before_iff.mp (show (Jvm.Cond.and given_1 narrow_1).before args s = true from hpre))
  obtain ⟨hct, g0⟩ := and_e hg
  obtain ⟨a0, g1⟩ := and_e g0
  obtain ⟨a1, g2⟩ := and_e g1
  obtain ⟨a2, g3⟩ := and_e g2
  obtain ⟨a3, g4⟩ := and_e g3
  obtain ⟨a4, g5⟩ := and_e g4
  obtain ⟨v0, v1, v2, v3, v4, v5, rfl⟩ : ∃ v0 v1 v2 v3 v4 v5 : Value, args = #[v0, v1, v2, v3, v4, v5] := by
    have hs : args.size = 6 := by simpa [Cond.value, given_1] using hct
    obtain ⟨L⟩ := args
    match L, hs with
    | [v0, v1, v2, v3, v4, v5], _ => exact ⟨v0, v1, v2, v3, v4, v5, rfl⟩
  have hw := fun d (hd : d ∈ tables_1) => atoms_spec (ws := Jvm.Cond.code x code maxLocals ret :: tables_1) hat d (List.mem_cons_of_mem _ hd)
  have hfit : Fit s := fun {y c} hc i hi => by
    obtain ⟨ha, rfl⟩ := Array.getElem?_eq_some_iff.mp hc
    have q := List.all_eq_true.mp ((Array.all_eq_true_iff_forall_mem.mp hF) _ (Array.getElem_mem ha)) i (List.mem_range.mpr hi)
    simpa [Array.getElem?_eq_getElem hi] using q
  obtain ⟨i0, ei0⟩ := is_v a0
  obtain rfl : v0 = (.int i0) := Option.some.inj ei0
  obtain ⟨i1, ei1⟩ := is_v a1
  obtain rfl : v1 = (.int i1) := Option.some.inj ei1
  obtain ⟨i2, ei2⟩ := is_v a2
  obtain rfl : v2 = (.int i2) := Option.some.inj ei2
  obtain ⟨i3, ei3⟩ := is_v a3
  obtain rfl : v3 = (.int i3) := Option.some.inj ei3
  obtain ⟨i4, ei4⟩ := is_v a4
  obtain rfl : v4 = (.int i4) := Option.some.inj ei4
  obtain ⟨i5, ei5⟩ := is_v g5
  obtain rfl : v5 = (.int i5) := Option.some.inj ei5
  obtain ⟨n, o, h1, h2, h3, _, L, rfl, ⟨rfl, N⟩, hq⟩ := rm0 l s _ hw i0 i1 i2 i3 i4 i5  s.heap s.heap.size (Nat.le_refl _)  tables_1 p e ha hc hk s m _ below hf ((Spec.applies_iff_loose hf).mp happ).1 ⟨rfl, State.Warmed39.refl s, rfl⟩ trivial
  exact ⟨n, _, h1, h2, h3, hpost _ _ _ _ _ _ ⟨Cond.after_iff.mpr rfl, Cond.after_iff.mpr (eq_i res_at (Term.int_eval (1)) rfl)⟩ (Jvm.RoadKit.wide (L := _) ⟨hq.1, hq.2.1, (hq.2.2.sift fun y hy => Or.inr (N y hy)).mono (by decide) (by decide)⟩)⟩
theorem main_1_1 : Claimed_1_1 := comes_1 fun _ _ _ _ _ _ h hF => ⟨h.1, hF⟩
theorem main_1_2 : Claimed_1_2 := comes_1 fun _ _ _ _ _ _ h hF => ⟨h.2, hF⟩
end Jvm.Pilot.@@N@@
namespace Jvm.Pilot.@@N@@
open Jvm Jvm.ClassFile Sem Op Lib Jvm.Free Jvm.Stand Jvm.Pilot.@@N@@.Jvm.D
/-! MADE BY PROGRAM (witnessworld.py) out of the Statement's table words and the real class files: 13 classes; the members and pool entries that the words name. The judged class is class 1, her method 1. -/
namespace start1
open Jvm.ClassFile
def u (s : String) : CpInfo := .utf8 (stringToUtf16 s)
/-- a pool by its gaps: so many unusable entries, then the entry; so many at the end -/
def gap : Nat → List CpInfo → List CpInfo
  | 0, r => r
  | n + 1, r => .unusable :: gap n r
def poolList (es : List (Nat × CpInfo)) (last : Nat) : List CpInfo := es.foldr (fun e r => gap e.1 (e.2 :: r)) (gap last [])
def pool (es : List (Nat × CpInfo)) (last : Nat) : Array CpInfo := ⟨poolList es last⟩
def fileOf (pool : Array CpInfo) (this : Nat) (attrs : Array Attribute := #[]) (ms : Array MethodInfo := #[]) (fl : Nat := 33) (sup : Nat := 0) (ifs : Array Nat := #[]) (fds : Array FieldInfo := #[]) : ClassFile where
  minorVersion := 0
  majorVersion := 65
  constantPool := pool
  accessFlags := fl
  thisClass := this
  superClass := sup
  interfaces := ifs
  fields := fds
  methods := ms
  attributes := attrs
def plain (name : String) (sup : Option ClassId) : Class where
  name := name
  kind := .ordinary
  loader := none
  accessFlags := 33
  super := sup
  interfaces := #[]
  cf := none
  fields := #[]
  methods := #[]
  instanceTypes := #[]
  staticTypes := #[]
  resolved := #[]
  callSites := []
  init := .initialized
  statics := none
  mirror := none

def pool0 : Array CpInfo := pool [(5, u "<init>"), (0, u "()V"), (1, .class_ 10), (1, u "java/lang/Object"), (85, u "clone"), (0, u "()Ljava/lang/Object;")] 26

def k0c0 : Code := { maxStack := 0, maxLocals := 1, code := object_method_1_code, exceptionTable := #[], attributes := #[] }
def k0m0 : Method := { name := "<init>", desc := "()V", sig := { parameters := [], returnType := none }, accessFlags := 1, code := some k0c0 }
def k0m1 : Method := { name := "clone", desc := "()Ljava/lang/Object;", sig := { parameters := [], returnType := some (.object "java/lang/Object") }, accessFlags := 260, code := none }
/-- java/lang/Object -/
def k0 : Class := { plain "java/lang/Object" none with
  accessFlags := 33
  interfaces := #[]
  cf := some (fileOf pool0 8 #[] #[{ accessFlags := 1, nameIndex := 5, descriptorIndex := 6, attributes := #[] }, { accessFlags := 260, nameIndex := 96, descriptorIndex := 97, attributes := #[] }] 33 0 #[] #[])
  fields := #[]
  methods := #[k0m0, k0m1]
  instanceTypes := #[]
  staticTypes := #[]
  resolved := Array.replicate 124 none
  statics := none }

def pool1 : Array CpInfo := pool [(2, .class_ 4), (1, u "java/lang/Object"), (0, u "<init>"), (0, u "()V"), (0, .integer 2147483647), (0, .class_ 9), (0, u "com/example/hushmediator/hushmediator/search/JointDomain"), (0, .methodref 8 11), (0, .nameAndType 5 12), (0, u "([I[I)V"), (0, .methodref 8 14), (0, .nameAndType 15 16), (0, u "advance"), (0, u "([I)Z"), (0, .class_ 18), (0, u "com/example/hushmediator/hushmediator/search/JointDomainAdvancePinLaw"), (2, u "law"), (0, u "(IIIIII)Z")] 5

def k1m0 : Method := { name := "<init>", desc := "()V", sig := { parameters := [], returnType := none }, accessFlags := 2, code := none }
def k1c1 : Code := { maxStack := 4, maxLocals := 21, code := code, exceptionTable := #[], attributes := #[] }
def k1m1 : Method := { name := "law", desc := "(IIIIII)Z", sig := { parameters := [.int, .int, .int, .int, .int, .int], returnType := some .boolean }, accessFlags := 9, code := some k1c1 }
/-- com/example/hushmediator/hushmediator/search/JointDomainAdvancePinLaw -/
def k1 : Class := { plain "com/example/hushmediator/hushmediator/search/JointDomainAdvancePinLaw" (some 0) with
  accessFlags := 49
  interfaces := #[]
  cf := some (fileOf pool1 17 #[] #[{ accessFlags := 2, nameIndex := 5, descriptorIndex := 6, attributes := #[] }, { accessFlags := 9, nameIndex := 21, descriptorIndex := 22, attributes := #[] }] 49 2 #[] #[])
  fields := #[]
  methods := #[k1m0, k1m1]
  instanceTypes := #[]
  staticTypes := #[]
  resolved := Array.replicate 28 none
  statics := none }

def pool2 : Array CpInfo := pool [(1, .methodref 2 3), (0, .class_ 4), (0, .nameAndType 5 6), (0, u "java/lang/Object"), (0, u "<init>"), (0, u "()V"), (0, .methodref 8 9), (0, .class_ 10), (0, .nameAndType 11 12), (0, u "[I"), (0, u "clone"), (0, u "()Ljava/lang/Object;"), (0, .fieldref 14 15), (0, .class_ 16), (0, .nameAndType 17 10), (0, u "com/example/hushmediator/hushmediator/search/JointDomain"), (0, u "members"), (0, .fieldref 14 19), (0, .nameAndType 20 10), (0, u "sizes"), (0, .methodref 22 23), (0, .class_ 24), (0, .nameAndType 25 26), (0, u "com/example/hushmediator/hushmediator/problem/Problem"), (0, u "combinations"), (0, u "([I)Ljava/util/OptionalInt;"), (0, .invokeDynamic 0 28), (0, .nameAndType 29 30), (0, u "get"), (0, u "()Ljava/util/function/Supplier;"), (0, .methodref 32 33), (0, .class_ 34), (0, .nameAndType 35 36), (0, u "java/util/OptionalInt"), (0, u "orElseThrow"), (0, u "(Ljava/util/function/Supplier;)I"), (0, .fieldref 14 38), (0, .nameAndType 39 40), (0, u "size"), (0, u "I"), (4, .class_ 47), (1, u "com/example/hushmediator/hushmediator/search/JointDomain$Part"), (4, u "advance"), (0, u "([I)Z"), (89, u "([I[I)V"), (13, u "lambda$new$0"), (0, u "()Ljava/lang/IllegalArgumentException;"), (4, .methodType 12), (0, .methodHandle 6 165), (0, .methodref 14 166), (0, .nameAndType 157 158), (0, .methodType 158), (14, .methodHandle 6 183), (0, .methodref 184 185), (0, .class_ 186), (0, .nameAndType 187 188), (0, u "java/lang/invoke/LambdaMetafactory"), (0, u "metafactory"), (0, u "(Ljava/lang/invoke/MethodHandles$Lookup;Ljava/lang/String;Ljava/lang/invoke/MethodType;Ljava/lang/invoke/MethodType;Ljava/lang/invoke/MethodHandle;Ljava/lang/invoke/MethodType;)Ljava/lang/invoke/CallSite;")] 8

def k2c0 : Code := { maxStack := 3, maxLocals := 3, code := prog_54_method_1_code, exceptionTable := #[], attributes := #[] }
def k2m0 : Method := { name := "<init>", desc := "([I[I)V", sig := { parameters := [(.array .int), (.array .int)], returnType := none }, accessFlags := 1, code := some k2c0 }
def k2c1 : Code := { maxStack := 4, maxLocals := 3, code := prog_54_method_4_code, exceptionTable := #[], attributes := #[] }
def k2m1 : Method := { name := "advance", desc := "([I)Z", sig := { parameters := [(.array .int)], returnType := some .boolean }, accessFlags := 1, code := some k2c1 }
def k2c2 : Code := { maxStack := 3, maxLocals := 0, code := ⟨#[0xbb, 0x00, 0x88, 0x59, 0x12, 0x8a, 0xb7, 0x00, 0x8c, 0xb0]⟩, exceptionTable := #[], attributes := #[] }
def k2m2 : Method := { name := "lambda$new$0", desc := "()Ljava/lang/IllegalArgumentException;", sig := { parameters := [], returnType := some (.object "java/lang/IllegalArgumentException") }, accessFlags := 4106, code := some k2c2 }
/-- com/example/hushmediator/hushmediator/search/JointDomain -/
def k2 : Class := { plain "com/example/hushmediator/hushmediator/search/JointDomain" (some 0) with
  accessFlags := 49
  interfaces := #[]
  cf := some (fileOf pool2 14 #[.nestMembers #[45], .bootstrapMethods #[⟨182, #[163, 164, 167]⟩, ⟨0, #[]⟩, ⟨0, #[]⟩]] #[{ accessFlags := 1, nameIndex := 5, descriptorIndex := 143, attributes := #[] }, { accessFlags := 1, nameIndex := 52, descriptorIndex := 53, attributes := #[] }, { accessFlags := 4106, nameIndex := 157, descriptorIndex := 158, attributes := #[] }] 49 2 #[] #[{ accessFlags := 18, nameIndex := 17, descriptorIndex := 10, attributes := #[] }, { accessFlags := 18, nameIndex := 20, descriptorIndex := 10, attributes := #[] }, { accessFlags := 18, nameIndex := 39, descriptorIndex := 40, attributes := #[] }])
  fields := #[{ name := "members", type := (.array .int), accessFlags := 18, slot := 0, constantValue := 0 }, { name := "sizes", type := (.array .int), accessFlags := 18, slot := 1, constantValue := 0 }, { name := "size", type := .int, accessFlags := 18, slot := 2, constantValue := 0 }]
  methods := #[k2m0, k2m1, k2m2]
  instanceTypes := #[(.array .int), (.array .int), .int]
  staticTypes := #[]
  resolved := Array.replicate 197 none
  callSites := [(0, 31, .constant 0)]
  statics := none }

def pool3 : Array CpInfo := pool [(1, .class_ 2), (0, u "java/lang/Cloneable"), (0, .class_ 4), (0, u "java/lang/Object")] 2

/-- java/lang/Cloneable -/
def k3 : Class := { plain "java/lang/Cloneable" (some 0) with
  accessFlags := 1537
  interfaces := #[]
  cf := some (fileOf pool3 1 #[] #[] 1537 3 #[] #[])
  fields := #[]
  methods := #[]
  instanceTypes := #[]
  staticTypes := #[]
  resolved := Array.replicate 7 none
  statics := none }

def pool4 : Array CpInfo := pool [(2, .class_ 4), (1, u "java/lang/Object"), (9, .class_ 16), (1, u "com/example/hushmediator/hushmediator/problem/Problem"), (0, u "variables"), (0, u "Ljava/util/List;"), (2, u "constraints"), (24, u "[[J"), (2, u "unaryCosts"), (28, .class_ 79), (0, u "com/example/hushmediator/hushmediator/problem/Problem$Constraint"), (27, u "constraintsOf"), (3, u "[[I"), (2, u "neighbours"), (0, .long 1073741824), (2, .class_ 120), (1, u "java/util/OptionalInt"), (2, .methodref 118 124), (0, .nameAndType 125 126), (0, u "of"), (0, u "(I)Ljava/util/OptionalInt;"), (0, .class_ 128), (0, u "com/example/hushmediator/hushmediator/problem/Problem$Variable"), (44, u "MAX_COMBINATIONS"), (0, u "I"), (7, u "combinations"), (0, u "([I)Ljava/util/OptionalInt;")] 74

def k4c0 : Code := { maxStack := 4, maxLocals := 7, code := prog_18_method_2_code, exceptionTable := #[], attributes := #[] }
def k4m0 : Method := { name := "combinations", desc := "([I)Ljava/util/OptionalInt;", sig := { parameters := [(.array .int)], returnType := some (.object "java/util/OptionalInt") }, accessFlags := 137, code := some k4c0 }
/-- com/example/hushmediator/hushmediator/problem/Problem -/
def k4 : Class := { plain "com/example/hushmediator/hushmediator/problem/Problem" (some 0) with
  accessFlags := 49
  interfaces := #[]
  cf := some (fileOf pool4 14 #[.nestMembers #[78, 127]] #[{ accessFlags := 137, nameIndex := 182, descriptorIndex := 183, attributes := #[] }] 49 2 #[] #[{ accessFlags := 18, nameIndex := 17, descriptorIndex := 18, attributes := #[] }, { accessFlags := 18, nameIndex := 21, descriptorIndex := 18, attributes := #[] }, { accessFlags := 18, nameIndex := 107, descriptorIndex := 18, attributes := #[] }, { accessFlags := 18, nameIndex := 114, descriptorIndex := 111, attributes := #[] }, { accessFlags := 18, nameIndex := 49, descriptorIndex := 46, attributes := #[] }, { accessFlags := 25, nameIndex := 173, descriptorIndex := 174, attributes := #[] }])
  fields := #[{ name := "variables", type := (.object "java/util/List"), accessFlags := 18, slot := 0, constantValue := 0 }, { name := "constraints", type := (.object "java/util/List"), accessFlags := 18, slot := 1, constantValue := 0 }, { name := "constraintsOf", type := (.object "java/util/List"), accessFlags := 18, slot := 2, constantValue := 0 }, { name := "neighbours", type := (.array (.array .int)), accessFlags := 18, slot := 3, constantValue := 0 }, { name := "unaryCosts", type := (.array (.array .long)), accessFlags := 18, slot := 4, constantValue := 0 }, { name := "MAX_COMBINATIONS", type := .int, accessFlags := 25, slot := 0, constantValue := 0 }]
  methods := #[k4m0]
  instanceTypes := #[(.object "java/util/List"), (.object "java/util/List"), (.object "java/util/List"), (.array (.array .int)), (.array (.array .long))]
  staticTypes := #[.int]
  resolved := Array.replicate 258 none
  statics := none }

def pool5 : Array CpInfo := pool [(1, .methodref 2 3), (0, .class_ 4), (0, .nameAndType 5 6), (0, u "java/lang/Object"), (0, u "<init>"), (0, u "()V"), (0, .fieldref 8 9), (0, .class_ 10), (0, .nameAndType 11 12), (0, u "java/util/OptionalInt"), (0, u "isPresent"), (0, u "Z"), (0, .fieldref 8 14), (0, .nameAndType 15 16), (0, u "value"), (0, u "I"), (2, u "EMPTY"), (0, u "Ljava/util/OptionalInt;"), (0, .methodref 8 22), (0, .nameAndType 5 23), (0, u "(I)V"), (21, u "of"), (51, u "(I)Ljava/util/OptionalInt;"), (18, u "orElseThrow"), (0, u "(Ljava/util/function/Supplier;)I")] 18

def k5m0 : Method := { name := "<init>", desc := "()V", sig := { parameters := [], returnType := none }, accessFlags := 2, code := none }
def k5c1 : Code := { maxStack := 2, maxLocals := 2, code := jdk_2649_method_3_code, exceptionTable := #[], attributes := #[] }
def k5m1 : Method := { name := "<init>", desc := "(I)V", sig := { parameters := [.int], returnType := none }, accessFlags := 2, code := some k5c1 }
def k5c2 : Code := { maxStack := 3, maxLocals := 1, code := jdk_2649_method_4_code, exceptionTable := #[], attributes := #[] }
def k5m2 : Method := { name := "of", desc := "(I)Ljava/util/OptionalInt;", sig := { parameters := [.int], returnType := some (.object "java/util/OptionalInt") }, accessFlags := 9, code := some k5c2 }
def k5c3 : Code := { maxStack := 1, maxLocals := 2, code := jdk_2649_method_14_code, exceptionTable := #[], attributes := #[] }
def k5m3 : Method := { name := "orElseThrow", desc := "(Ljava/util/function/Supplier;)I", sig := { parameters := [(.object "java/util/function/Supplier")], returnType := some .int }, accessFlags := 1, code := some k5c3 }
/-- java/util/OptionalInt -/
def k5 : Class := { plain "java/util/OptionalInt" (some 0) with
  accessFlags := 49
  interfaces := #[]
  cf := some (fileOf pool5 8 #[] #[{ accessFlags := 2, nameIndex := 5, descriptorIndex := 6, attributes := #[] }, { accessFlags := 2, nameIndex := 5, descriptorIndex := 23, attributes := #[] }, { accessFlags := 9, nameIndex := 45, descriptorIndex := 97, attributes := #[] }, { accessFlags := 1, nameIndex := 116, descriptorIndex := 117, attributes := #[] }] 49 2 #[] #[{ accessFlags := 26, nameIndex := 19, descriptorIndex := 20, attributes := #[] }, { accessFlags := 18, nameIndex := 11, descriptorIndex := 12, attributes := #[] }, { accessFlags := 18, nameIndex := 15, descriptorIndex := 16, attributes := #[] }])
  fields := #[{ name := "EMPTY", type := (.object "java/util/OptionalInt"), accessFlags := 26, slot := 0, constantValue := 0 }, { name := "isPresent", type := .boolean, accessFlags := 18, slot := 0, constantValue := 0 }, { name := "value", type := .int, accessFlags := 18, slot := 1, constantValue := 0 }]
  methods := #[k5m0, k5m1, k5m2, k5m3]
  instanceTypes := #[.boolean, .int]
  staticTypes := #[(.object "java/util/OptionalInt")]
  resolved := Array.replicate 136 none
  statics := none }

def pool6 : Array CpInfo := pool [(1, .class_ 2), (0, u "java/util/function/Supplier"), (0, .class_ 4), (0, u "java/lang/Object"), (0, u "get"), (0, u "()Ljava/lang/Object;")] 7

def k6m0 : Method := { name := "get", desc := "()Ljava/lang/Object;", sig := { parameters := [], returnType := some (.object "java/lang/Object") }, accessFlags := 1025, code := none }
/-- java/util/function/Supplier -/
def k6 : Class := { plain "java/util/function/Supplier" (some 0) with
  accessFlags := 1537
  interfaces := #[]
  cf := some (fileOf pool6 1 #[] #[{ accessFlags := 1025, nameIndex := 5, descriptorIndex := 6, attributes := #[] }] 1537 3 #[] #[])
  fields := #[]
  methods := #[k6m0]
  instanceTypes := #[]
  staticTypes := #[]
  resolved := Array.replicate 14 none
  statics := none }

def pool7 : Array CpInfo := pool [(1, u "java/io/Serializable"), (0, .class_ 1), (0, u "java/lang/Object"), (0, .class_ 3)] 3

/-- java/io/Serializable -/
def k7 : Class := { plain "java/io/Serializable" (some 0) with
  accessFlags := 1537
  interfaces := #[]
  cf := some (fileOf pool7 2 #[] #[] 1537 4 #[] #[])
  fields := #[]
  methods := #[]
  instanceTypes := #[]
  staticTypes := #[]
  resolved := Array.replicate 8 none
  statics := none }

/-- the primitive byte -/
def k8 : Class := { plain "byte" none with kind := .primitive 'B', accessFlags := 0x411 }
/-- [B -/
def k9 : Class := { plain "[B" (some 0) with kind := .array 8 .byte, interfaces := #[3, 7], accessFlags := 1041 }

/-- the primitive int -/
def k10 : Class := { plain "int" none with kind := .primitive 'I', accessFlags := 0x411 }
/-- [I -/
def k11 : Class := { plain "[I" (some 0) with kind := .array 10 .int, interfaces := #[3, 7], accessFlags := 1041 }

def classes0 : Array Class := #[k0, k1, k2, k3, k4, k5, k6, k7, k8, k9, k10, k11]
/-- the class that the rule has made for the site at 31 of com/example/hushmediator/hushmediator/search/JointDomain.<init> -/
def k12 : Class := Jvm.LamKit.madeRec { classes := classes0 } "com/example/hushmediator/hushmediator/search/JointDomain" (Jvm.Lambda.Shape.mk "java/util/function/Supplier" "get" (Jvm.ClassFile.MethodDescriptor.mk ([] : List Jvm.ClassFile.FieldType) (Option.some (Jvm.ClassFile.FieldType.object "java/lang/Object"))) ([] : List Jvm.ClassFile.FieldType) (6 : Nat) "com/example/hushmediator/hushmediator/search/JointDomain" "lambda$new$0" (Jvm.ClassFile.MethodDescriptor.mk ([] : List Jvm.ClassFile.FieldType) (Option.some (Jvm.ClassFile.FieldType.object "java/lang/IllegalArgumentException"))) false (Jvm.ClassFile.MethodDescriptor.mk ([] : List Jvm.ClassFile.FieldType) (Option.some (Jvm.ClassFile.FieldType.object "java/lang/IllegalArgumentException")))) 12

def heap : Heap := #[{ cls := 12, slots := #[], vm := .none }]
def classes : Array Class := #[k0, k1, k2, k3, k4, k5, k6, k7, k8, k9, k10, k11, k12]
def interned : List (Array UInt16 × Addr) := []
def slotsUsed : Nat := 0
def theMethod : MethodId := ⟨1, 1⟩
def args0 : Array Value := #[.int 5, .int 3, .int 2, .int 1, .int 4, .int 6]
def aboutOver (below : List Frame) : State where
  vm := { classes := classes, interned := interned.toArray }
  heap := heap
  slotsUsed := slotsUsed
  threads := #[{ frames := .invoking theMethod args0 :: below }]
def below0 : List Frame := [.native { method := ⟨0, 0⟩, args := #[] }]
def about1 : State := aboutOver below0
def p0 : Program := .bare "" "" ""
def e0 : Env := launch0.env 0 0 0
theorem w_frames : about1.frames = Frame.invoking theMethod args0 :: below0 := rfl
set_option maxRecDepth 65536 in
theorem w_args : argsFit about1.vm theMethod args0 = true := by decide +kernel
set_option maxRecDepth 65536 in
theorem w_heap : heapFits about1 = true := by decide +kernel
set_option maxRecDepth 65536 in
theorem w_runnable : about1.curStatus? = some .runnable := by decide +kernel
set_option maxRecDepth 65536 in
theorem w_alone : about1.alone = true := by decide +kernel
set_option maxRecDepth 65536 in
theorem w_named : about1.methodNamed? x = some theMethod := by decide +kernel
set_option maxRecDepth 65536 in
theorem w_hears : about1.hears theMethod below0 = true := by decide +kernel
set_option maxRecDepth 65536 in
theorem w_ripe : about1.ripe theMethod args0 below0 = true := by decide +kernel
theorem w_running : about1.status = .running := rfl
set_option maxRecDepth 65536 in
theorem w_room : about1.hasRoom e0.platform room_1 = true :=
  launch0.hasRoom_least _ room_1 (by decide +kernel) (by decide +kernel) (by decide +kernel) (by decide +kernel) (by decide +kernel) (by decide +kernel)
theorem allAtoms_all (ts : List Jvm.Cond) (a : Array Jvm.Value) (st : Jvm.State) : (allAtoms ts).before a st = ts.all (fun c => c.before a st) := by
  induction ts with
  | nil => rfl
  | cons c t ih =>
    show (Jvm.Cond.and c (allAtoms t)).before a st = _
    rw [Jvm.Cond.before_and, ih, List.all_cons]
def words1 : List Jvm.Cond := Jvm.Cond.code x code maxLocals ret :: tables_1
/-- a 'code' word, met by the world's own term for the bytes: nothing is compared byte by byte -/
theorem code_word {y : MethodName} {bytes : ByteArray} {mx : Nat} {rt : Option FieldType} {a : Array Value} {s : State} {m : MethodId} {meth : Method} {c : Code} (h1 : s.methodNamed? y = some m) (h2 : s.vm.method? m = some meth) (h3 : meth.code = some c) (h4 : c.code = bytes)
    (h5 : (c.maxLocals == mx && c.exceptionTable.isEmpty && decide (c.maxStack ≤ mostOperands) && decide (meth.sig.returnType = rt) && !meth.locks && decide (parseMethodDescriptor y.desc = some meth.sig)) = true) : (Jvm.Cond.code y bytes mx rt).before a s = true := by
  simp only [Bool.and_eq_true, beq_iff_eq, Bool.not_eq_true', decide_eq_true_eq] at h5
  obtain ⟨⟨⟨⟨⟨g1, g2⟩, g3⟩, g4⟩, g5⟩, g6⟩ := h5
  simp [Cond.before, Cond.holds, Cond.value, h1, h2, h3, h4, g1, g2, g3, g4, g5, g6]
def isCode : Jvm.Cond → Bool
  | .code _ _ _ _ => true
  | _ => false
theorem all_split {L : List Jvm.Cond} {P : Jvm.Cond → Bool} (h1 : L.all (fun c => isCode c || P c) = true) (h2 : ∀ c ∈ L.filter isCode, P c = true) : L.all P = true := by
  refine List.all_eq_true.mpr fun c hc => ?_
  have h := List.all_eq_true.mp h1 c hc
  rcases Bool.eq_false_or_eq_true (isCode c) with hi | hi
  · exact h2 c (List.mem_filter.mpr ⟨hc, hi⟩)
  · simpa [hi] using h
set_option maxRecDepth 65536 in
theorem w_c0 : (Jvm.Cond.code x code maxLocals ret).before args0 about1 = true := code_word (m := ⟨1, 1⟩) (meth := k1m1) (c := k1c1) (by decide +kernel) rfl rfl rfl (by decide +kernel)
set_option maxRecDepth 65536 in
theorem w_c1 : (Jvm.Cond.code ({ cls := "com/example/hushmediator/hushmediator/search/JointDomain", name := "<init>", desc := "([I[I)V" } : Jvm.MethodName) prog_54_method_1_code (3 : Nat) (Option.none : Option Jvm.ClassFile.FieldType)).before args0 about1 = true := code_word (m := ⟨2, 0⟩) (meth := k2m0) (c := k2c0) (by decide +kernel) rfl rfl rfl (by decide +kernel)
set_option maxRecDepth 65536 in
theorem w_c2 : (Jvm.Cond.code ({ cls := "java/lang/Object", name := "<init>", desc := "()V" } : Jvm.MethodName) object_method_1_code (1 : Nat) (Option.none : Option Jvm.ClassFile.FieldType)).before args0 about1 = true := code_word (m := ⟨0, 0⟩) (meth := k0m0) (c := k0c0) (by decide +kernel) rfl rfl rfl (by decide +kernel)
set_option maxRecDepth 65536 in
theorem w_c3 : (Jvm.Cond.code ({ cls := "com/example/hushmediator/hushmediator/problem/Problem", name := "combinations", desc := "([I)Ljava/util/OptionalInt;" } : Jvm.MethodName) prog_18_method_2_code (7 : Nat) (Option.some (Jvm.ClassFile.FieldType.object "java/util/OptionalInt"))).before args0 about1 = true := code_word (m := ⟨4, 0⟩) (meth := k4m0) (c := k4c0) (by decide +kernel) rfl rfl rfl (by decide +kernel)
set_option maxRecDepth 65536 in
theorem w_c4 : (Jvm.Cond.code ({ cls := "java/util/OptionalInt", name := "of", desc := "(I)Ljava/util/OptionalInt;" } : Jvm.MethodName) jdk_2649_method_4_code (1 : Nat) (Option.some (Jvm.ClassFile.FieldType.object "java/util/OptionalInt"))).before args0 about1 = true := code_word (m := ⟨5, 2⟩) (meth := k5m2) (c := k5c2) (by decide +kernel) rfl rfl rfl (by decide +kernel)
set_option maxRecDepth 65536 in
theorem w_c5 : (Jvm.Cond.code ({ cls := "java/util/OptionalInt", name := "<init>", desc := "(I)V" } : Jvm.MethodName) jdk_2649_method_3_code (2 : Nat) (Option.none : Option Jvm.ClassFile.FieldType)).before args0 about1 = true := code_word (m := ⟨5, 1⟩) (meth := k5m1) (c := k5c1) (by decide +kernel) rfl rfl rfl (by decide +kernel)
set_option maxRecDepth 65536 in
theorem w_c6 : (Jvm.Cond.code ({ cls := "java/util/OptionalInt", name := "orElseThrow", desc := "(Ljava/util/function/Supplier;)I" } : Jvm.MethodName) jdk_2649_method_14_code (2 : Nat) (Option.some Jvm.ClassFile.FieldType.int)).before args0 about1 = true := code_word (m := ⟨5, 3⟩) (meth := k5m3) (c := k5c3) (by decide +kernel) rfl rfl rfl (by decide +kernel)
set_option maxRecDepth 65536 in
theorem w_c7 : (Jvm.Cond.code ({ cls := "com/example/hushmediator/hushmediator/search/JointDomain", name := "advance", desc := "([I)Z" } : Jvm.MethodName) prog_54_method_4_code (3 : Nat) (Option.some Jvm.ClassFile.FieldType.boolean)).before args0 about1 = true := code_word (m := ⟨2, 1⟩) (meth := k2m1) (c := k2c1) (by decide +kernel) rfl rfl rfl (by decide +kernel)
def codes1 : List Jvm.Cond := [Jvm.Cond.code x code maxLocals ret, Jvm.Cond.code ({ cls := "com/example/hushmediator/hushmediator/search/JointDomain", name := "<init>", desc := "([I[I)V" } : Jvm.MethodName) prog_54_method_1_code (3 : Nat) (Option.none : Option Jvm.ClassFile.FieldType), Jvm.Cond.code ({ cls := "java/lang/Object", name := "<init>", desc := "()V" } : Jvm.MethodName) object_method_1_code (1 : Nat) (Option.none : Option Jvm.ClassFile.FieldType), Jvm.Cond.code ({ cls := "com/example/hushmediator/hushmediator/problem/Problem", name := "combinations", desc := "([I)Ljava/util/OptionalInt;" } : Jvm.MethodName) prog_18_method_2_code (7 : Nat) (Option.some (Jvm.ClassFile.FieldType.object "java/util/OptionalInt")), Jvm.Cond.code ({ cls := "java/util/OptionalInt", name := "of", desc := "(I)Ljava/util/OptionalInt;" } : Jvm.MethodName) jdk_2649_method_4_code (1 : Nat) (Option.some (Jvm.ClassFile.FieldType.object "java/util/OptionalInt")), Jvm.Cond.code ({ cls := "java/util/OptionalInt", name := "<init>", desc := "(I)V" } : Jvm.MethodName) jdk_2649_method_3_code (2 : Nat) (Option.none : Option Jvm.ClassFile.FieldType), Jvm.Cond.code ({ cls := "java/util/OptionalInt", name := "orElseThrow", desc := "(Ljava/util/function/Supplier;)I" } : Jvm.MethodName) jdk_2649_method_14_code (2 : Nat) (Option.some Jvm.ClassFile.FieldType.int), Jvm.Cond.code ({ cls := "com/example/hushmediator/hushmediator/search/JointDomain", name := "advance", desc := "([I)Z" } : Jvm.MethodName) prog_54_method_4_code (3 : Nat) (Option.some Jvm.ClassFile.FieldType.boolean)]
set_option maxRecDepth 65536 in
theorem codes_eq : words1.filter isCode = codes1 := rfl
theorem w_codes : ∀ c ∈ words1.filter isCode, c.before args0 about1 = true := by
  rw [codes_eq]
  intro c hc
  simp only [codes1, List.mem_cons, List.not_mem_nil, or_false] at hc
  rcases hc with rfl | rfl | rfl | rfl | rfl | rfl | rfl | rfl
  · exact w_c0
  · exact w_c1
  · exact w_c2
  · exact w_c3
  · exact w_c4
  · exact w_c5
  · exact w_c6
  · exact w_c7
set_option maxRecDepth 65536 in
theorem w_t1 : (words1.take 24).all (fun c => isCode c || c.before args0 about1) = true := by decide +kernel
set_option maxRecDepth 65536 in
theorem w_t2 : ((words1.drop 24).take 24).all (fun c => isCode c || c.before args0 about1) = true := by decide +kernel
set_option maxRecDepth 65536 in
theorem w_t3 : ((words1.drop 24).drop 24).all (fun c => isCode c || c.before args0 about1) = true := by decide +kernel
theorem w_tables : (allAtoms (Jvm.Cond.code x code maxLocals ret :: tables_1)).before args0 about1 = true := by
  rw [allAtoms_all]
  show words1.all (fun c => c.before args0 about1) = true
  refine all_split ?_ w_codes
  rw [← List.take_append_drop 24 words1, List.all_append, w_t1, ← List.take_append_drop 24 (words1.drop 24), List.all_append, w_t2, w_t3]
  rfl
set_option maxRecDepth 65536 in
theorem w_case : (Jvm.Cond.and given_1 narrow_1).before args0 about1 = true := by decide +kernel
theorem w_applies : (headSpec (Jvm.Cond.code x code maxLocals ret :: tables_1) room_1).applies x e0.platform about1 = true :=
  (Spec.applies_iff w_frames).mpr ⟨w_running, w_runnable, w_alone, w_named, w_hears, w_ripe, w_room, w_tables⟩
theorem atStart : AtStart classFile x code maxLocals ret World_1 tables_1 room_1 Calls_1 rest_1 Pre_1 launch0 p0 e0 about1 theMethod args0 below0 :=
  ⟨lists_1, trivial, launch0.admits_env _ _ _, launch0.least_env, fairChoices_fair.cas, fairChoices_fair.clock, w_frames, w_args, w_heap, w_applies, trivial, trivial, w_case⟩
end start1
theorem witness_1 : WitnessClaimed_1 := ⟨start1.p0, start1.e0, start1.about1, start1.theMethod, start1.args0, start1.below0, start1.atStart⟩
end Jvm.Pilot.@@N@@
