import JvmDerived
import JvmDerived.Pilot.@@N@@Statement
import JvmDerived.Pilot.@@N@@Code
set_option linter.unusedVariables false
set_option linter.unusedSimpArgs false
namespace Jvm.GoKit
open Sem ClassFile Op Lib Jvm.Stand Jvm.Free Jvm.LawKit Jvm.RoadKit
/-- what is fixed of one walk, but for the method's own figures -/
abbrev Cx : Type := Program × Launch × Env × State × MethodId × Array Value × List Frame × Method × Code
abbrev Cx.p (E : Cx) : Program := E.1
abbrev Cx.l (E : Cx) : Launch := E.2.1
abbrev Cx.e (E : Cx) : Env := E.2.2.1
abbrev Cx.s (E : Cx) : State := E.2.2.2.1
abbrev Cx.m (E : Cx) : MethodId := E.2.2.2.2.1
abbrev Cx.args (E : Cx) : Array Value := E.2.2.2.2.2.1
abbrev Cx.below (E : Cx) : List Frame := E.2.2.2.2.2.2.1
abbrev Cx.meth (E : Cx) : Method := E.2.2.2.2.2.2.2.1
abbrev Cx.c (E : Cx) : Code := E.2.2.2.2.2.2.2.2
/-- a method's own figures: its name, bytes, locals, return type, room -/
abbrev Mt : Type := MethodName × ByteArray × Nat × Option FieldType × Room
abbrev Mt.y (k : Mt) : MethodName := k.1
abbrev Mt.bytes (k : Mt) : ByteArray := k.2.1
abbrev Mt.maxL (k : Mt) : Nat := k.2.2.1
abbrev Mt.ret (k : Mt) : Option FieldType := k.2.2.2.1
abbrev Mt.rm (k : Mt) : Room := k.2.2.2.2
/-- the run from S ends, as G says -/
def Go (E : Cx) (G : State → Outcome → Prop) (S : State) : Prop := ∃ s₂ o, Steps E.p.tables E.e E.below S s₂ ∧ s₂.status = .running ∧ Ended s₂ E.below o ∧ G s₂ o
abbrev Fm (E : Cx) (T : State) (pc : Nat) (Ls : Array Slot) (st : List Value) : State := T.setTop (mkF E.m pc Ls st)
theorem nb {a b : Nat} (h : Nat.ble a b = true) : a ≤ b := Nat.le_of_ble_eq_true h
theorem Go.step {E : Cx} {G : State → Outcome → Prop} {S S' : State} (g : Go E G S') (k : ∀ t, Steps E.p.tables E.e E.below S' t → Steps E.p.tables E.e E.below S t) : Go E G S := by
  obtain ⟨s₂, o, h1, h2⟩ := g
  exact ⟨s₂, o, k _ h1, h2⟩
theorem Go.mono {E : Cx} {G G' : State → Outcome → Prop} {S : State} (g : Go E G S) (k : ∀ t o, G t o → G' t o) : Go E G' S := by
  obtain ⟨s₂, o, h1, h2, h3, h4⟩ := g
  exact ⟨s₂, o, h1, h2, h3, k _ _ h4⟩
/-- where a walk stands: its tables' start Z, the heap h, what it has made at the most; what it wrote lies at or above n0 -/
def On (k : Mt) (Z : State) (n0 : Nat) (E : Cx) (T : State) (h : Heap) (cells slots : Nat) : Prop :=
  (E.p.tables.exec = Jvm.exec ∧ E.c.code = k.bytes ∧ E.c.maxLocals = k.maxL ∧ E.s.vm.findClass k.y.cls = some E.m.cls ∧ E.meth.sig.returnType = k.ret ∧ E.meth.locks = false ∧ Z.Warmed39 E.s.vm ∧ E.meth.name = k.y.name ∧ E.s.methodNamed? k.y = some E.m) ∧ T.heap = h ∧
  ∃ locs cells' slots', cells' ≤ cells ∧ slots' ≤ slots ∧ Fr n0 locs ∧ Stand E.p E.l E.e k.rm E.s E.m E.args E.below E.meth E.c T locs cells' slots'
section
variable {k : Mt} {Z : State} {n0 : Nat} {E : Cx} {T : State} {h : Heap} {cells slots : Nat} {G : State → Outcome → Prop} {a0 : Array Value} {pc pc' : Nat} {Ls : Array Slot} {st : List Value}
theorem On.exec (W : On k Z n0 E T h cells slots) : E.p.tables.exec = Jvm.exec := W.1.1
theorem On.bytes (W : On k Z n0 E T h cells slots) : E.c.code = k.bytes := W.1.2.1
theorem On.maxL (W : On k Z n0 E T h cells slots) : E.c.maxLocals = k.maxL := W.1.2.2.1
theorem On.own (W : On k Z n0 E T h cells slots) : E.s.vm.findClass k.y.cls = some E.m.cls := W.1.2.2.2.1
theorem On.ret (W : On k Z n0 E T h cells slots) : E.meth.sig.returnType = k.ret := W.1.2.2.2.2.1
theorem On.locks (W : On k Z n0 E T h cells slots) : E.meth.locks = false := W.1.2.2.2.2.2.1
theorem On.hZ (W : On k Z n0 E T h cells slots) : Z.Warmed39 E.s.vm := W.1.2.2.2.2.2.2.1
theorem On.nm (W : On k Z n0 E T h cells slots) : E.meth.name = k.y.name := W.1.2.2.2.2.2.2.2.1
theorem On.named (W : On k Z n0 E T h cells slots) : E.s.methodNamed? k.y = some E.m := W.1.2.2.2.2.2.2.2.2
theorem On.heap (W : On k Z n0 E T h cells slots) : T.heap = h := W.2.1
theorem On.here (W : On k Z n0 E T h cells slots) : At T E.m E.c E.below := by obtain ⟨-, -, _, _, _, -, -, -, X⟩ := W; exact X.here
theorem On.mono {cells' slots' : Nat} (W : On k Z n0 E T h cells slots) (h1 : cells ≤ cells') (h2 : slots ≤ slots') : On k Z n0 E T h cells' slots' := by
  obtain ⟨q, e, L, a, b, ha, hb, r⟩ := W; exact ⟨q, e, L, a, b, Nat.le_trans ha h1, Nat.le_trans hb h2, r⟩
theorem On.sub {h' : Heap} (W : On k Z n0 E T h cells slots) (q : h = h') : On k Z n0 E T h' cells slots := q ▸ W
theorem On.heq {h' : Heap} (W : On k Z n0 E T h cells slots) (q : h' = h) : On k Z n0 E T h' cells slots := q.symm ▸ W
theorem go_iloadN (W : On k Z n0 E T h cells slots) {i : Fin 4} {v : Int32} (hd : decode k.bytes pc = .ok (.iload_n i, 1)) (hl : Ls[i.val]? = some (.val (.int v))) (hp : pc + 1 = pc') (g : Go E G (Fm E T pc' Ls (.int v :: st))) : Go E G (Fm E T pc Ls st) := by
  subst hp; exact g.step fun t r => XS.iloadN W.here W.exec rfl (hb W.bytes hd) hl r
theorem go_iload (W : On k Z n0 E T h cells slots) {i : Nat} {v : Int32} (hd : decode k.bytes pc = .ok (.iload i, 2)) (hl : Ls[i]? = some (.val (.int v))) (hp : pc + 2 = pc') (g : Go E G (Fm E T pc' Ls (.int v :: st))) : Go E G (Fm E T pc Ls st) := by
  subst hp; exact g.step fun t r => XS.iload W.here W.exec rfl (hb W.bytes hd) hl r
theorem go_istoreN (W : On k Z n0 E T h cells slots) {i : Fin 4} {v : Int32} {l' : Array Slot} (hd : decode k.bytes pc = .ok (.istore_n i, 1)) (hl : storeLocals Ls i.val (.int v) = some l') (hp : pc + 1 = pc') (g : Go E G (Fm E T pc' l' st)) : Go E G (Fm E T pc Ls (.int v :: st)) := by
  subst hp; exact g.step fun t r => XS.istoreN W.here W.exec rfl (hb W.bytes hd) rfl hl r
theorem go_istore (W : On k Z n0 E T h cells slots) {i : Nat} {v : Int32} {l' : Array Slot} (hd : decode k.bytes pc = .ok (.istore i, 2)) (hl : storeLocals Ls i (.int v) = some l') (hp : pc + 2 = pc') (g : Go E G (Fm E T pc' l' st)) : Go E G (Fm E T pc Ls (.int v :: st)) := by
  subst hp; exact g.step fun t r => XS.istore W.here W.exec rfl (hb W.bytes hd) rfl hl r
theorem go_lloadN (W : On k Z n0 E T h cells slots) {i : Fin 4} {v : Int64} (hd : decode k.bytes pc = .ok (.lload_n i, 1)) (hl : Ls[i.val]? = some (.val (.long v))) (hp : pc + 1 = pc') (g : Go E G (Fm E T pc' Ls (.long v :: st))) : Go E G (Fm E T pc Ls st) := by
  subst hp; exact g.step fun t r => XS.lloadN W.here W.exec rfl (hb W.bytes hd) hl r
theorem go_lload (W : On k Z n0 E T h cells slots) {i : Nat} {v : Int64} (hd : decode k.bytes pc = .ok (.lload i, 2)) (hl : Ls[i]? = some (.val (.long v))) (hp : pc + 2 = pc') (g : Go E G (Fm E T pc' Ls (.long v :: st))) : Go E G (Fm E T pc Ls st) := by
  subst hp; exact g.step fun t r => XS.lload W.here W.exec rfl (hb W.bytes hd) hl r
theorem go_lstoreN (W : On k Z n0 E T h cells slots) {i : Fin 4} {v : Int64} {l' : Array Slot} (hd : decode k.bytes pc = .ok (.lstore_n i, 1)) (hl : storeLocals Ls i.val (.long v) = some l') (hp : pc + 1 = pc') (g : Go E G (Fm E T pc' l' st)) : Go E G (Fm E T pc Ls (.long v :: st)) := by
  subst hp; exact g.step fun t r => XS.lstoreN W.here W.exec rfl (hb W.bytes hd) rfl hl r
theorem go_lstore (W : On k Z n0 E T h cells slots) {i : Nat} {v : Int64} {l' : Array Slot} (hd : decode k.bytes pc = .ok (.lstore i, 2)) (hl : storeLocals Ls i (.long v) = some l') (hp : pc + 2 = pc') (g : Go E G (Fm E T pc' l' st)) : Go E G (Fm E T pc Ls (.long v :: st)) := by
  subst hp; exact g.step fun t r => XS.lstore W.here W.exec rfl (hb W.bytes hd) rfl hl r
theorem go_aloadN (W : On k Z n0 E T h cells slots) {i : Fin 4} {v : Value} (hd : decode k.bytes pc = .ok (.aload_n i, 1)) (hl : Ls[i.val]? = some (.val v)) (hv : v.isRef = true) (hp : pc + 1 = pc') (g : Go E G (Fm E T pc' Ls (v :: st))) : Go E G (Fm E T pc Ls st) := by
  subst hp; exact g.step fun t r => XS.aloadN W.here W.exec rfl (hb W.bytes hd) hl hv r
theorem go_aload (W : On k Z n0 E T h cells slots) {i : Nat} {v : Value} (hd : decode k.bytes pc = .ok (.aload i, 2)) (hl : Ls[i]? = some (.val v)) (hv : v.isRef = true) (hp : pc + 2 = pc') (g : Go E G (Fm E T pc' Ls (v :: st))) : Go E G (Fm E T pc Ls st) := by
  subst hp; exact g.step fun t r => XS.aload W.here W.exec rfl (hb W.bytes hd) hl hv r
theorem go_astoreN (W : On k Z n0 E T h cells slots) {i : Fin 4} {v : Value} {l' : Array Slot} (hd : decode k.bytes pc = .ok (.astore_n i, 1)) (hv : v.isRef = true) (hl : storeLocals Ls i.val v = some l') (hp : pc + 1 = pc') (g : Go E G (Fm E T pc' l' st)) : Go E G (Fm E T pc Ls (v :: st)) := by
  subst hp; exact g.step fun t r => XS.astoreN W.here W.exec rfl (hb W.bytes hd) rfl hv hl r
theorem go_astore (W : On k Z n0 E T h cells slots) {i : Nat} {v : Value} {l' : Array Slot} (hd : decode k.bytes pc = .ok (.astore i, 2)) (hv : v.isRef = true) (hl : storeLocals Ls i v = some l') (hp : pc + 2 = pc') (g : Go E G (Fm E T pc' l' st)) : Go E G (Fm E T pc Ls (v :: st)) := by
  subst hp; exact g.step fun t r => XS.astore W.here W.exec rfl (hb W.bytes hd) rfl hv hl r
theorem go_iconst (W : On k Z n0 E T h cells slots) {i : Int} {z : Int32} (hd : decode k.bytes pc = .ok (.iconst i, 1)) (hz : Int32.ofInt i = z) (hp : pc + 1 = pc') (g : Go E G (Fm E T pc' Ls (.int z :: st))) : Go E G (Fm E T pc Ls st) := by
  subst hp; exact g.step fun t r => XS.iconst W.here W.exec rfl (hb W.bytes hd) (hz.symm ▸ r)
theorem go_bipush (W : On k Z n0 E T h cells slots) {i : Int} {z : Int32} (hd : decode k.bytes pc = .ok (.bipush i, 2)) (hz : (Int8.ofInt i).toInt32 = z) (hp : pc + 2 = pc') (g : Go E G (Fm E T pc' Ls (.int z :: st))) : Go E G (Fm E T pc Ls st) := by
  subst hp; exact g.step fun t r => XS.bipush W.here W.exec rfl (hb W.bytes hd) (hz.symm ▸ r)
theorem go_sipush (W : On k Z n0 E T h cells slots) {i : Int} {z : Int32} (hd : decode k.bytes pc = .ok (.sipush i, 3)) (hz : (Int16.ofInt i).toInt32 = z) (hp : pc + 3 = pc') (g : Go E G (Fm E T pc' Ls (.int z :: st))) : Go E G (Fm E T pc Ls st) := by
  subst hp; exact g.step fun t r => XS.sipush W.here W.exec rfl (hb W.bytes hd) (hz.symm ▸ r)
theorem go_lconst (W : On k Z n0 E T h cells slots) {i : Fin 2} {z : Int64} (hd : decode k.bytes pc = .ok (.lconst i, 1)) (hz : Int64.ofNat i = z) (hp : pc + 1 = pc') (g : Go E G (Fm E T pc' Ls (.long z :: st))) : Go E G (Fm E T pc Ls st) := by
  subst hp; exact g.step fun t r => XS.lconst W.here W.exec rfl (hb W.bytes hd) (hz.symm ▸ r)
theorem go_aconstNull (W : On k Z n0 E T h cells slots)  (hd : decode k.bytes pc = .ok (.aconst_null, 1))  (hp : pc + 1 = pc') (g : Go E G (Fm E T pc' Ls (.null :: st))) : Go E G (Fm E T pc Ls st) := by
  subst hp; exact g.step fun t r => XS.aconstNull W.here W.exec rfl (hb W.bytes hd) r
theorem go_iadd (W : On k Z n0 E T h cells slots) {x y : Int32} (hd : decode k.bytes pc = .ok (.iadd, 1))  (hp : pc + 1 = pc') (g : Go E G (Fm E T pc' Ls (.int (x + y) :: st))) : Go E G (Fm E T pc Ls (.int y :: .int x :: st)) := by
  subst hp; exact g.step fun t r => XS.iadd W.here W.exec rfl (hb W.bytes hd) rfl r
theorem go_ladd (W : On k Z n0 E T h cells slots) {x y : Int64} (hd : decode k.bytes pc = .ok (.ladd, 1))  (hp : pc + 1 = pc') (g : Go E G (Fm E T pc' Ls (.long (x + y) :: st))) : Go E G (Fm E T pc Ls (.long y :: .long x :: st)) := by
  subst hp; exact g.step fun t r => XS.ladd W.here W.exec rfl (hb W.bytes hd) rfl r
theorem go_isub (W : On k Z n0 E T h cells slots) {x y : Int32} (hd : decode k.bytes pc = .ok (.isub, 1))  (hp : pc + 1 = pc') (g : Go E G (Fm E T pc' Ls (.int (x - y) :: st))) : Go E G (Fm E T pc Ls (.int y :: .int x :: st)) := by
  subst hp; exact g.step fun t r => XS.isub W.here W.exec rfl (hb W.bytes hd) rfl r
theorem go_lsub (W : On k Z n0 E T h cells slots) {x y : Int64} (hd : decode k.bytes pc = .ok (.lsub, 1))  (hp : pc + 1 = pc') (g : Go E G (Fm E T pc' Ls (.long (x - y) :: st))) : Go E G (Fm E T pc Ls (.long y :: .long x :: st)) := by
  subst hp; exact g.step fun t r => XS.lsub W.here W.exec rfl (hb W.bytes hd) rfl r
theorem go_imul (W : On k Z n0 E T h cells slots) {x y : Int32} (hd : decode k.bytes pc = .ok (.imul, 1))  (hp : pc + 1 = pc') (g : Go E G (Fm E T pc' Ls (.int (x * y) :: st))) : Go E G (Fm E T pc Ls (.int y :: .int x :: st)) := by
  subst hp; exact g.step fun t r => XS.imul W.here W.exec rfl (hb W.bytes hd) rfl r
theorem go_lmul (W : On k Z n0 E T h cells slots) {x y : Int64} (hd : decode k.bytes pc = .ok (.lmul, 1))  (hp : pc + 1 = pc') (g : Go E G (Fm E T pc' Ls (.long (x * y) :: st))) : Go E G (Fm E T pc Ls (.long y :: .long x :: st)) := by
  subst hp; exact g.step fun t r => XS.lmul W.here W.exec rfl (hb W.bytes hd) rfl r
theorem go_iand (W : On k Z n0 E T h cells slots) {x y : Int32} (hd : decode k.bytes pc = .ok (.iand, 1))  (hp : pc + 1 = pc') (g : Go E G (Fm E T pc' Ls (.int (x &&& y) :: st))) : Go E G (Fm E T pc Ls (.int y :: .int x :: st)) := by
  subst hp; exact g.step fun t r => XS.iand W.here W.exec rfl (hb W.bytes hd) rfl r
theorem go_land (W : On k Z n0 E T h cells slots) {x y : Int64} (hd : decode k.bytes pc = .ok (.land, 1))  (hp : pc + 1 = pc') (g : Go E G (Fm E T pc' Ls (.long (x &&& y) :: st))) : Go E G (Fm E T pc Ls (.long y :: .long x :: st)) := by
  subst hp; exact g.step fun t r => XS.land W.here W.exec rfl (hb W.bytes hd) rfl r
theorem go_ior (W : On k Z n0 E T h cells slots) {x y : Int32} (hd : decode k.bytes pc = .ok (.ior, 1))  (hp : pc + 1 = pc') (g : Go E G (Fm E T pc' Ls (.int (x ||| y) :: st))) : Go E G (Fm E T pc Ls (.int y :: .int x :: st)) := by
  subst hp; exact g.step fun t r => XS.ior W.here W.exec rfl (hb W.bytes hd) rfl r
theorem go_lor (W : On k Z n0 E T h cells slots) {x y : Int64} (hd : decode k.bytes pc = .ok (.lor, 1))  (hp : pc + 1 = pc') (g : Go E G (Fm E T pc' Ls (.long (x ||| y) :: st))) : Go E G (Fm E T pc Ls (.long y :: .long x :: st)) := by
  subst hp; exact g.step fun t r => XS.lor W.here W.exec rfl (hb W.bytes hd) rfl r
theorem go_ixor (W : On k Z n0 E T h cells slots) {x y : Int32} (hd : decode k.bytes pc = .ok (.ixor, 1))  (hp : pc + 1 = pc') (g : Go E G (Fm E T pc' Ls (.int (x ^^^ y) :: st))) : Go E G (Fm E T pc Ls (.int y :: .int x :: st)) := by
  subst hp; exact g.step fun t r => XS.ixor W.here W.exec rfl (hb W.bytes hd) rfl r
theorem go_lxor (W : On k Z n0 E T h cells slots) {x y : Int64} (hd : decode k.bytes pc = .ok (.lxor, 1))  (hp : pc + 1 = pc') (g : Go E G (Fm E T pc' Ls (.long (x ^^^ y) :: st))) : Go E G (Fm E T pc Ls (.long y :: .long x :: st)) := by
  subst hp; exact g.step fun t r => XS.lxor W.here W.exec rfl (hb W.bytes hd) rfl r
theorem go_iaddZ (W : On k Z n0 E T h cells slots) {x y z : Int32} (hd : decode k.bytes pc = .ok (.iadd, 1)) (hz : x + y = z) (hp : pc + 1 = pc') (g : Go E G (Fm E T pc' Ls (.int z :: st))) : Go E G (Fm E T pc Ls (.int y :: .int x :: st)) := by
  subst hp; exact g.step fun t r => XS.iadd W.here W.exec rfl (hb W.bytes hd) rfl (hz.symm ▸ r)
theorem go_isubZ (W : On k Z n0 E T h cells slots) {x y z : Int32} (hd : decode k.bytes pc = .ok (.isub, 1)) (hz : x - y = z) (hp : pc + 1 = pc') (g : Go E G (Fm E T pc' Ls (.int z :: st))) : Go E G (Fm E T pc Ls (.int y :: .int x :: st)) := by
  subst hp; exact g.step fun t r => XS.isub W.here W.exec rfl (hb W.bytes hd) rfl (hz.symm ▸ r)
theorem go_imulZ (W : On k Z n0 E T h cells slots) {x y z : Int32} (hd : decode k.bytes pc = .ok (.imul, 1)) (hz : x * y = z) (hp : pc + 1 = pc') (g : Go E G (Fm E T pc' Ls (.int z :: st))) : Go E G (Fm E T pc Ls (.int y :: .int x :: st)) := by
  subst hp; exact g.step fun t r => XS.imul W.here W.exec rfl (hb W.bytes hd) rfl (hz.symm ▸ r)
theorem go_iandZ (W : On k Z n0 E T h cells slots) {x y z : Int32} (hd : decode k.bytes pc = .ok (.iand, 1)) (hz : x &&& y = z) (hp : pc + 1 = pc') (g : Go E G (Fm E T pc' Ls (.int z :: st))) : Go E G (Fm E T pc Ls (.int y :: .int x :: st)) := by
  subst hp; exact g.step fun t r => XS.iand W.here W.exec rfl (hb W.bytes hd) rfl (hz.symm ▸ r)
theorem go_iorZ (W : On k Z n0 E T h cells slots) {x y z : Int32} (hd : decode k.bytes pc = .ok (.ior, 1)) (hz : x ||| y = z) (hp : pc + 1 = pc') (g : Go E G (Fm E T pc' Ls (.int z :: st))) : Go E G (Fm E T pc Ls (.int y :: .int x :: st)) := by
  subst hp; exact g.step fun t r => XS.ior W.here W.exec rfl (hb W.bytes hd) rfl (hz.symm ▸ r)
theorem go_ixorZ (W : On k Z n0 E T h cells slots) {x y z : Int32} (hd : decode k.bytes pc = .ok (.ixor, 1)) (hz : x ^^^ y = z) (hp : pc + 1 = pc') (g : Go E G (Fm E T pc' Ls (.int z :: st))) : Go E G (Fm E T pc Ls (.int y :: .int x :: st)) := by
  subst hp; exact g.step fun t r => XS.ixor W.here W.exec rfl (hb W.bytes hd) rfl (hz.symm ▸ r)
theorem go_idiv (W : On k Z n0 E T h cells slots) {x y : Int32} (hd : decode k.bytes pc = .ok (.idiv, 1)) (hy : y ≠ 0) (hp : pc + 1 = pc') (g : Go E G (Fm E T pc' Ls (.int (x / y) :: st))) : Go E G (Fm E T pc Ls (.int y :: .int x :: st)) := by
  subst hp; exact g.step fun t r => XS.idiv W.here W.exec rfl (hb W.bytes hd) rfl hy r
theorem go_irem (W : On k Z n0 E T h cells slots) {x y : Int32} (hd : decode k.bytes pc = .ok (.irem, 1)) (hy : y ≠ 0) (hp : pc + 1 = pc') (g : Go E G (Fm E T pc' Ls (.int (x % y) :: st))) : Go E G (Fm E T pc Ls (.int y :: .int x :: st)) := by
  obtain ⟨C, hh, _, _, _, -, -, -, X⟩ := W
  subst hp; exact g.step fun t r => iremM X C.1 rfl (hb C.2.1 hd) rfl hy r
theorem go_ineg (W : On k Z n0 E T h cells slots) {x : Int32} (hd : decode k.bytes pc = .ok (.ineg, 1))  (hp : pc + 1 = pc') (g : Go E G (Fm E T pc' Ls (.int (-x) :: st))) : Go E G (Fm E T pc Ls (.int x :: st)) := by
  subst hp; exact g.step fun t r => XS.ineg W.here W.exec rfl (hb W.bytes hd) rfl r
theorem go_ishl (W : On k Z n0 E T h cells slots) {x y : Int32} (hd : decode k.bytes pc = .ok (.ishl, 1))  (hp : pc + 1 = pc') (g : Go E G (Fm E T pc' Ls (.int (x <<< (y &&& 31)) :: st))) : Go E G (Fm E T pc Ls (.int y :: .int x :: st)) := by
  subst hp; exact g.step fun t r => XS.ishl W.here W.exec rfl (hb W.bytes hd) rfl r
theorem go_ishr (W : On k Z n0 E T h cells slots) {x y : Int32} (hd : decode k.bytes pc = .ok (.ishr, 1))  (hp : pc + 1 = pc') (g : Go E G (Fm E T pc' Ls (.int (x >>> (y &&& 31)) :: st))) : Go E G (Fm E T pc Ls (.int y :: .int x :: st)) := by
  subst hp; exact g.step fun t r => XS.ishr W.here W.exec rfl (hb W.bytes hd) rfl r
theorem go_iushr (W : On k Z n0 E T h cells slots) {x y : Int32} (hd : decode k.bytes pc = .ok (.iushr, 1))  (hp : pc + 1 = pc') (g : Go E G (Fm E T pc' Ls (.int ((x.toUInt32 >>> (y &&& 31).toUInt32).toInt32) :: st))) : Go E G (Fm E T pc Ls (.int y :: .int x :: st)) := by
  subst hp; exact g.step fun t r => XS.iushr W.here W.exec rfl (hb W.bytes hd) rfl r
theorem go_lshl (W : On k Z n0 E T h cells slots) {x : Int64} {y : Int32} (hd : decode k.bytes pc = .ok (.lshl, 1))  (hp : pc + 1 = pc') (g : Go E G (Fm E T pc' Ls (.long (x <<< (y &&& 0x3f).toInt64) :: st))) : Go E G (Fm E T pc Ls (.int y :: .long x :: st)) := by
  subst hp; exact g.step fun t r => XS.lshl W.here W.exec rfl (hb W.bytes hd) rfl r
theorem go_lshr (W : On k Z n0 E T h cells slots) {x : Int64} {y : Int32} (hd : decode k.bytes pc = .ok (.lshr, 1))  (hp : pc + 1 = pc') (g : Go E G (Fm E T pc' Ls (.long (x >>> (y &&& 0x3f).toInt64) :: st))) : Go E G (Fm E T pc Ls (.int y :: .long x :: st)) := by
  subst hp; exact g.step fun t r => XS.lshr W.here W.exec rfl (hb W.bytes hd) rfl r
theorem go_lushr (W : On k Z n0 E T h cells slots) {x : Int64} {y : Int32} (hd : decode k.bytes pc = .ok (.lushr, 1))  (hp : pc + 1 = pc') (g : Go E G (Fm E T pc' Ls (.long ((x.toUInt64 >>> (y &&& 0x3f).toInt64.toUInt64).toInt64) :: st))) : Go E G (Fm E T pc Ls (.int y :: .long x :: st)) := by
  subst hp; exact g.step fun t r => XS.lushr W.here W.exec rfl (hb W.bytes hd) rfl r
theorem go_i2l (W : On k Z n0 E T h cells slots) {x : Int32} (hd : decode k.bytes pc = .ok (.i2l, 1))  (hp : pc + 1 = pc') (g : Go E G (Fm E T pc' Ls (.long (x.toInt64) :: st))) : Go E G (Fm E T pc Ls (.int x :: st)) := by
  subst hp; exact g.step fun t r => XS.i2l W.here W.exec rfl (hb W.bytes hd) rfl r
theorem go_l2i (W : On k Z n0 E T h cells slots) {x : Int64} (hd : decode k.bytes pc = .ok (.l2i, 1))  (hp : pc + 1 = pc') (g : Go E G (Fm E T pc' Ls (.int (x.toInt32) :: st))) : Go E G (Fm E T pc Ls (.long x :: st)) := by
  subst hp; exact g.step fun t r => XS.l2i W.here W.exec rfl (hb W.bytes hd) rfl r
theorem go_i2b (W : On k Z n0 E T h cells slots) {x : Int32} (hd : decode k.bytes pc = .ok (.i2b, 1))  (hp : pc + 1 = pc') (g : Go E G (Fm E T pc' Ls (.int (x.toInt8.toInt32) :: st))) : Go E G (Fm E T pc Ls (.int x :: st)) := by
  subst hp; exact g.step fun t r => XS.i2b W.here W.exec rfl (hb W.bytes hd) rfl r
theorem go_i2s (W : On k Z n0 E T h cells slots) {x : Int32} (hd : decode k.bytes pc = .ok (.i2s, 1))  (hp : pc + 1 = pc') (g : Go E G (Fm E T pc' Ls (.int (x.toInt16.toInt32) :: st))) : Go E G (Fm E T pc Ls (.int x :: st)) := by
  subst hp; exact g.step fun t r => XS.i2s W.here W.exec rfl (hb W.bytes hd) rfl r
theorem go_i2c (W : On k Z n0 E T h cells slots) {x : Int32} (hd : decode k.bytes pc = .ok (.i2c, 1))  (hp : pc + 1 = pc') (g : Go E G (Fm E T pc' Ls (.int (x.toUInt32.toUInt16.toUInt32.toInt32) :: st))) : Go E G (Fm E T pc Ls (.int x :: st)) := by
  subst hp; exact g.step fun t r => XS.i2c W.here W.exec rfl (hb W.bytes hd) rfl r
theorem go_lneg (W : On k Z n0 E T h cells slots) {x : Int64} (hd : decode k.bytes pc = .ok (.lneg, 1))  (hp : pc + 1 = pc') (g : Go E G (Fm E T pc' Ls (.long (-x) :: st))) : Go E G (Fm E T pc Ls (.long x :: st)) := by
  subst hp; exact g.step fun t r => XS.lneg W.here W.exec rfl (hb W.bytes hd) rfl r
theorem go_lcmp (W : On k Z n0 E T h cells slots) {x y : Int64} (hd : decode k.bytes pc = .ok (.lcmp, 1))  (hp : pc + 1 = pc') (g : Go E G (Fm E T pc' Ls (.int (lcmpW x y) :: st))) : Go E G (Fm E T pc Ls (.long y :: .long x :: st)) := by
  subst hp; exact g.step fun t r => XS.lcmp W.here W.exec rfl (hb W.bytes hd) rfl r
theorem go_dup (W : On k Z n0 E T h cells slots) {x : Value} (hd : decode k.bytes pc = .ok (.dup, 1)) (hc : x.category = 1) (hp : pc + 1 = pc') (g : Go E G (Fm E T pc' Ls (x :: x :: st))) : Go E G (Fm E T pc Ls (x :: st)) := by
  subst hp; exact g.step fun t r => XS.dup W.here W.exec rfl (hb W.bytes hd) rfl hc r
theorem go_pop (W : On k Z n0 E T h cells slots) {x : Value} (hd : decode k.bytes pc = .ok (.pop, 1)) (hc : x.category = 1) (hp : pc + 1 = pc') (g : Go E G (Fm E T pc' Ls st)) : Go E G (Fm E T pc Ls (x :: st)) := by
  subst hp; exact g.step fun t r => XS.pop W.here W.exec rfl (hb W.bytes hd) rfl hc r
theorem go_dupX1 (W : On k Z n0 E T h cells slots) {x y : Value} (hd : decode k.bytes pc = .ok (.dup_x1, 1)) (hc : x.category = 1) (hc' : y.category = 1) (hp : pc + 1 = pc') (g : Go E G (Fm E T pc' Ls (x :: y :: x :: st))) : Go E G (Fm E T pc Ls (x :: y :: st)) := by
  subst hp; exact g.step fun t r => XS.dupX1 W.here W.exec rfl (hb W.bytes hd) rfl hc hc' r
theorem go_dup2 (W : On k Z n0 E T h cells slots) {x y : Value} (hd : decode k.bytes pc = .ok (.dup2, 1)) (hc : x.category = 1) (hc' : y.category = 1) (hp : pc + 1 = pc') (g : Go E G (Fm E T pc' Ls (x :: y :: x :: y :: st))) : Go E G (Fm E T pc Ls (x :: y :: st)) := by
  subst hp; exact g.step fun t r => XT.dup2 W.here W.exec rfl (hb W.bytes hd) rfl hc hc' r
theorem go_iinc (W : On k Z n0 E T h cells slots) {i : Nat} {cst : Int} {x z : Int32} {l' : Array Slot} (hd : decode k.bytes pc = .ok (.iinc i cst, 3)) (hl : Ls[i]? = some (.val (.int x))) (hz : x + Int32.ofInt cst = z) (hl' : storeLocals Ls i (.int z) = some l') (hp : pc + 3 = pc') (g : Go E G (Fm E T pc' l' st)) : Go E G (Fm E T pc Ls st) := by
  subst hp; exact g.step fun t r => XS.iinc W.here W.exec rfl (hb W.bytes hd) hl (hz.symm ▸ hl') r
theorem go_dupX2 (W : On k Z n0 E T h cells slots) {x y z : Value} (hd : decode k.bytes pc = .ok (.dup_x2, 1)) (h1 : x.category = 1) (h2 : y.category = 1) (h3 : z.category = 1) (hp : pc + 1 = pc') (g : Go E G (Fm E T pc' Ls (x :: y :: z :: x :: st))) : Go E G (Fm E T pc Ls (x :: y :: z :: st)) := by
  subst hp
  refine g.step fun t r => ?_
  have q := W.here; have hx := W.exec; have hd' := hb W.bytes hd
  show Steps E.p.tables E.e E.below (T.setTop { method := E.m, pc := pc, locals := Ls, stack := x :: y :: z :: st, locked := none }) t
  jvm_step q [q.top, hx, hd', h1, h2, h3]
  exact r
theorem go_goto (W : On k Z n0 E T h cells slots) {o : Int} (hd : decode k.bytes pc = .ok (.goto o, 3)) (ho : 0 ≤ (pc : Int) + o) (hp : ((pc : Int) + o).toNat = pc') (g : Go E G (Fm E T pc' Ls st)) : Go E G (Fm E T pc Ls st) := by
  exact g.step fun t r => XS.goto W.here W.exec rfl rfl (hb W.bytes hd) ho hp r
theorem go_icmp_lt (W : On k Z n0 E T h cells slots) {x y : Int32} {o : Int} {pt pf : Nat} (hd : decode k.bytes pc = .ok (.if_icmp .lt o, 3)) (ho : 0 ≤ (pc : Int) + o) (hp : ((pc : Int) + o).toNat = pt) (hq : pc + 3 = pf) (g1 : x < y → Go E G (Fm E T pt Ls st)) (g2 : ¬ x < y → Go E G (Fm E T pf Ls st)) : Go E G (Fm E T pc Ls (.int y :: .int x :: st)) := by
  subst hq
  by_cases q : x < y
  · exact (g1 q).step fun t r => XS.icmpYes W.here W.exec rfl rfl (hb W.bytes hd) rfl (tlt q).1 ho hp r
  · exact (g2 q).step fun t r => XS.icmpNo W.here W.exec rfl (hb W.bytes hd) rfl (flt q).1 r
theorem go_if_lt (W : On k Z n0 E T h cells slots) {x : Int32} {o : Int} {pt pf : Nat} (hd : decode k.bytes pc = .ok (.ifCond .lt o, 3)) (ho : 0 ≤ (pc : Int) + o) (hp : ((pc : Int) + o).toNat = pt) (hq : pc + 3 = pf) (g1 : x < 0 → Go E G (Fm E T pt Ls st)) (g2 : ¬ x < 0 → Go E G (Fm E T pf Ls st)) : Go E G (Fm E T pc Ls (.int x :: st)) := by
  subst hq
  by_cases q : x < 0
  · exact (g1 q).step fun t r => XS.ifYes W.here W.exec rfl rfl (hb W.bytes hd) rfl ((if0 _ _).trans (tlt q).1) ho hp r
  · exact (g2 q).step fun t r => XS.ifNo W.here W.exec rfl (hb W.bytes hd) rfl ((if0 _ _).trans (flt q).1) r
theorem go_icmp_ge (W : On k Z n0 E T h cells slots) {x y : Int32} {o : Int} {pt pf : Nat} (hd : decode k.bytes pc = .ok (.if_icmp .ge o, 3)) (ho : 0 ≤ (pc : Int) + o) (hp : ((pc : Int) + o).toNat = pt) (hq : pc + 3 = pf) (g1 : ¬ x < y → Go E G (Fm E T pt Ls st)) (g2 : x < y → Go E G (Fm E T pf Ls st)) : Go E G (Fm E T pc Ls (.int y :: .int x :: st)) := by
  subst hq
  by_cases q : ¬ x < y
  · exact (g1 q).step fun t r => XS.icmpYes W.here W.exec rfl rfl (hb W.bytes hd) rfl (flt q).2.1 ho hp r
  · replace q := Decidable.not_not.mp q; exact (g2 q).step fun t r => XS.icmpNo W.here W.exec rfl (hb W.bytes hd) rfl (tlt q).2.1 r
theorem go_if_ge (W : On k Z n0 E T h cells slots) {x : Int32} {o : Int} {pt pf : Nat} (hd : decode k.bytes pc = .ok (.ifCond .ge o, 3)) (ho : 0 ≤ (pc : Int) + o) (hp : ((pc : Int) + o).toNat = pt) (hq : pc + 3 = pf) (g1 : ¬ x < 0 → Go E G (Fm E T pt Ls st)) (g2 : x < 0 → Go E G (Fm E T pf Ls st)) : Go E G (Fm E T pc Ls (.int x :: st)) := by
  subst hq
  by_cases q : ¬ x < 0
  · exact (g1 q).step fun t r => XS.ifYes W.here W.exec rfl rfl (hb W.bytes hd) rfl ((if0 _ _).trans (flt q).2.1) ho hp r
  · replace q := Decidable.not_not.mp q; exact (g2 q).step fun t r => XS.ifNo W.here W.exec rfl (hb W.bytes hd) rfl ((if0 _ _).trans (tlt q).2.1) r
theorem go_icmp_gt (W : On k Z n0 E T h cells slots) {x y : Int32} {o : Int} {pt pf : Nat} (hd : decode k.bytes pc = .ok (.if_icmp .gt o, 3)) (ho : 0 ≤ (pc : Int) + o) (hp : ((pc : Int) + o).toNat = pt) (hq : pc + 3 = pf) (g1 : y < x → Go E G (Fm E T pt Ls st)) (g2 : ¬ y < x → Go E G (Fm E T pf Ls st)) : Go E G (Fm E T pc Ls (.int y :: .int x :: st)) := by
  subst hq
  by_cases q : y < x
  · exact (g1 q).step fun t r => XS.icmpYes W.here W.exec rfl rfl (hb W.bytes hd) rfl (tlt q).2.2.1 ho hp r
  · exact (g2 q).step fun t r => XS.icmpNo W.here W.exec rfl (hb W.bytes hd) rfl (flt q).2.2.1 r
theorem go_if_gt (W : On k Z n0 E T h cells slots) {x : Int32} {o : Int} {pt pf : Nat} (hd : decode k.bytes pc = .ok (.ifCond .gt o, 3)) (ho : 0 ≤ (pc : Int) + o) (hp : ((pc : Int) + o).toNat = pt) (hq : pc + 3 = pf) (g1 : 0 < x → Go E G (Fm E T pt Ls st)) (g2 : ¬ 0 < x → Go E G (Fm E T pf Ls st)) : Go E G (Fm E T pc Ls (.int x :: st)) := by
  subst hq
  by_cases q : 0 < x
  · exact (g1 q).step fun t r => XS.ifYes W.here W.exec rfl rfl (hb W.bytes hd) rfl ((if0 _ _).trans (tlt q).2.2.1) ho hp r
  · exact (g2 q).step fun t r => XS.ifNo W.here W.exec rfl (hb W.bytes hd) rfl ((if0 _ _).trans (flt q).2.2.1) r
theorem go_icmp_le (W : On k Z n0 E T h cells slots) {x y : Int32} {o : Int} {pt pf : Nat} (hd : decode k.bytes pc = .ok (.if_icmp .le o, 3)) (ho : 0 ≤ (pc : Int) + o) (hp : ((pc : Int) + o).toNat = pt) (hq : pc + 3 = pf) (g1 : ¬ y < x → Go E G (Fm E T pt Ls st)) (g2 : y < x → Go E G (Fm E T pf Ls st)) : Go E G (Fm E T pc Ls (.int y :: .int x :: st)) := by
  subst hq
  by_cases q : ¬ y < x
  · exact (g1 q).step fun t r => XS.icmpYes W.here W.exec rfl rfl (hb W.bytes hd) rfl (flt q).2.2.2 ho hp r
  · replace q := Decidable.not_not.mp q; exact (g2 q).step fun t r => XS.icmpNo W.here W.exec rfl (hb W.bytes hd) rfl (tlt q).2.2.2 r
theorem go_if_le (W : On k Z n0 E T h cells slots) {x : Int32} {o : Int} {pt pf : Nat} (hd : decode k.bytes pc = .ok (.ifCond .le o, 3)) (ho : 0 ≤ (pc : Int) + o) (hp : ((pc : Int) + o).toNat = pt) (hq : pc + 3 = pf) (g1 : ¬ 0 < x → Go E G (Fm E T pt Ls st)) (g2 : 0 < x → Go E G (Fm E T pf Ls st)) : Go E G (Fm E T pc Ls (.int x :: st)) := by
  subst hq
  by_cases q : ¬ 0 < x
  · exact (g1 q).step fun t r => XS.ifYes W.here W.exec rfl rfl (hb W.bytes hd) rfl ((if0 _ _).trans (flt q).2.2.2) ho hp r
  · replace q := Decidable.not_not.mp q; exact (g2 q).step fun t r => XS.ifNo W.here W.exec rfl (hb W.bytes hd) rfl ((if0 _ _).trans (tlt q).2.2.2) r
theorem go_icmp_eq (W : On k Z n0 E T h cells slots) {x y : Int32} {o : Int} {pt pf : Nat} (hd : decode k.bytes pc = .ok (.if_icmp .eq o, 3)) (ho : 0 ≤ (pc : Int) + o) (hp : ((pc : Int) + o).toNat = pt) (hq : pc + 3 = pf) (g1 : x = y → Go E G (Fm E T pt Ls st)) (g2 : ¬ x = y → Go E G (Fm E T pf Ls st)) : Go E G (Fm E T pc Ls (.int y :: .int x :: st)) := by
  subst hq
  by_cases q : x = y
  · exact (g1 q).step fun t r => XS.icmpYes W.here W.exec rfl rfl (hb W.bytes hd) rfl (teq q).1 ho hp r
  · exact (g2 q).step fun t r => XS.icmpNo W.here W.exec rfl (hb W.bytes hd) rfl (feq q).1 r
theorem go_if_eq (W : On k Z n0 E T h cells slots) {x : Int32} {o : Int} {pt pf : Nat} (hd : decode k.bytes pc = .ok (.ifCond .eq o, 3)) (ho : 0 ≤ (pc : Int) + o) (hp : ((pc : Int) + o).toNat = pt) (hq : pc + 3 = pf) (g1 : x = 0 → Go E G (Fm E T pt Ls st)) (g2 : ¬ x = 0 → Go E G (Fm E T pf Ls st)) : Go E G (Fm E T pc Ls (.int x :: st)) := by
  subst hq
  by_cases q : x = 0
  · exact (g1 q).step fun t r => XS.ifYes W.here W.exec rfl rfl (hb W.bytes hd) rfl ((if0 _ _).trans (teq q).1) ho hp r
  · exact (g2 q).step fun t r => XS.ifNo W.here W.exec rfl (hb W.bytes hd) rfl ((if0 _ _).trans (feq q).1) r
theorem go_icmp_ne (W : On k Z n0 E T h cells slots) {x y : Int32} {o : Int} {pt pf : Nat} (hd : decode k.bytes pc = .ok (.if_icmp .ne o, 3)) (ho : 0 ≤ (pc : Int) + o) (hp : ((pc : Int) + o).toNat = pt) (hq : pc + 3 = pf) (g1 : ¬ x = y → Go E G (Fm E T pt Ls st)) (g2 : x = y → Go E G (Fm E T pf Ls st)) : Go E G (Fm E T pc Ls (.int y :: .int x :: st)) := by
  subst hq
  by_cases q : ¬ x = y
  · exact (g1 q).step fun t r => XS.icmpYes W.here W.exec rfl rfl (hb W.bytes hd) rfl (feq q).2 ho hp r
  · replace q := Decidable.not_not.mp q; exact (g2 q).step fun t r => XS.icmpNo W.here W.exec rfl (hb W.bytes hd) rfl (teq q).2 r
theorem go_if_ne (W : On k Z n0 E T h cells slots) {x : Int32} {o : Int} {pt pf : Nat} (hd : decode k.bytes pc = .ok (.ifCond .ne o, 3)) (ho : 0 ≤ (pc : Int) + o) (hp : ((pc : Int) + o).toNat = pt) (hq : pc + 3 = pf) (g1 : ¬ x = 0 → Go E G (Fm E T pt Ls st)) (g2 : x = 0 → Go E G (Fm E T pf Ls st)) : Go E G (Fm E T pc Ls (.int x :: st)) := by
  subst hq
  by_cases q : ¬ x = 0
  · exact (g1 q).step fun t r => XS.ifYes W.here W.exec rfl rfl (hb W.bytes hd) rfl ((if0 _ _).trans (feq q).2) ho hp r
  · replace q := Decidable.not_not.mp q; exact (g2 q).step fun t r => XS.ifNo W.here W.exec rfl (hb W.bytes hd) rfl ((if0 _ _).trans (teq q).2) r
theorem go_acmp_eq (W : On k Z n0 E T h cells slots) {x y : Value} {o : Int} {pt pf : Nat} (hd : decode k.bytes pc = .ok (.if_acmp .eq o, 3)) (h1 : x.isRef = true) (h2 : y.isRef = true) (ho : 0 ≤ (pc : Int) + o) (hp : ((pc : Int) + o).toNat = pt) (hq : pc + 3 = pf) (g1 : x = y → Go E G (Fm E T pt Ls st)) (g2 : ¬ x = y → Go E G (Fm E T pf Ls st)) : Go E G (Fm E T pc Ls (y :: x :: st)) := by
  obtain ⟨C, hh, _, _, _, -, -, -, X⟩ := W
  by_cases q : x = y
  · exact (g1 q).step fun t r => Jvm.RoadKit.acmp (g := mkF E.m pc Ls (y :: x :: st)) X C.1 rfl h1 h2 (pc0 := pc) (pc' := pt) (same := true) rfl (hb C.2.1 hd) rfl (decide_eq_true q) ho hp.symm r
  · exact (g2 q).step fun t r => Jvm.RoadKit.acmp (g := mkF E.m pc Ls (y :: x :: st)) X C.1 rfl h1 h2 (pc0 := pc) (pc' := pf) (same := false) rfl (hb C.2.1 hd) rfl (decide_eq_false q) ho hq.symm r
theorem go_acmp_ne (W : On k Z n0 E T h cells slots) {x y : Value} {o : Int} {pt pf : Nat} (hd : decode k.bytes pc = .ok (.if_acmp .ne o, 3)) (h1 : x.isRef = true) (h2 : y.isRef = true) (ho : 0 ≤ (pc : Int) + o) (hp : ((pc : Int) + o).toNat = pt) (hq : pc + 3 = pf) (g1 : ¬ x = y → Go E G (Fm E T pt Ls st)) (g2 : x = y → Go E G (Fm E T pf Ls st)) : Go E G (Fm E T pc Ls (y :: x :: st)) := by
  obtain ⟨C, hh, _, _, _, -, -, -, X⟩ := W
  by_cases q : x = y
  · exact (g2 q).step fun t r => Jvm.RoadKit.acmp (g := mkF E.m pc Ls (y :: x :: st)) X C.1 rfl h1 h2 (pc0 := pc) (pc' := pf) (same := true) rfl (hb C.2.1 hd) rfl (decide_eq_true q) ho hq.symm r
  · exact (g1 q).step fun t r => Jvm.RoadKit.acmp (g := mkF E.m pc Ls (y :: x :: st)) X C.1 rfl h1 h2 (pc0 := pc) (pc' := pt) (same := false) rfl (hb C.2.1 hd) rfl (decide_eq_false q) ho hp.symm r
theorem go_ifnull_null (W : On k Z n0 E T h cells slots) {o : Int} (hd : decode k.bytes pc = .ok (.ifnull o, 3)) (ho : 0 ≤ (pc : Int) + o) (hp : ((pc : Int) + o).toNat = pc') (g : Go E G (Fm E T pc' Ls st)) : Go E G (Fm E T pc Ls (.null :: st)) :=
  g.step fun t r => XS.ifnullYes W.here W.exec rfl rfl (hb W.bytes hd) rfl ho hp r
theorem go_ifnull_ref (W : On k Z n0 E T h cells slots) {o : Int} {b : Addr} (hd : decode k.bytes pc = .ok (.ifnull o, 3)) (hp : pc + 3 = pc') (g : Go E G (Fm E T pc' Ls st)) : Go E G (Fm E T pc Ls (.ref b :: st)) := by
  subst hp; exact g.step fun t r => XS.ifnullNo W.here W.exec rfl (hb W.bytes hd) rfl r
theorem go_ifnonnull_ref (W : On k Z n0 E T h cells slots) {o : Int} {b : Addr} (hd : decode k.bytes pc = .ok (.ifnonnull o, 3)) (ho : 0 ≤ (pc : Int) + o) (hp : ((pc : Int) + o).toNat = pc') (g : Go E G (Fm E T pc' Ls st)) : Go E G (Fm E T pc Ls (.ref b :: st)) :=
  g.step fun t r => XS.ifnonnullYes W.here W.exec rfl rfl (hb W.bytes hd) rfl ho hp r
theorem go_ifnonnull_null (W : On k Z n0 E T h cells slots) {o : Int} (hd : decode k.bytes pc = .ok (.ifnonnull o, 3)) (hp : pc + 3 = pc') (g : Go E G (Fm E T pc' Ls st)) : Go E G (Fm E T pc Ls (.null :: st)) := by
  subst hp; exact g.step fun t r => XS.ifnonnullNo W.here W.exec rfl (hb W.bytes hd) rfl r
theorem go_tswIn (W : On k Z n0 E T h cells slots) {dflt low high : Int} {offs : Array Int} {len : Nat} {o : Int} {i : Int32} (hd : decode k.bytes pc = .ok (.tableswitch dflt low high offs, len)) (hin : ¬ (i.toInt < low ∨ i.toInt > high)) (hoff : offs[(i.toInt - low).toNat]? = some o) (ho : 0 ≤ (pc : Int) + o) (hp : ((pc : Int) + o).toNat = pc') (g : Go E G (Fm E T pc' Ls st)) : Go E G (Fm E T pc Ls (.int i :: st)) :=
  g.step fun t r => XS.tswIn W.here W.exec rfl rfl (hb W.bytes hd) rfl hin hoff ho hp r
theorem go_tswOut (W : On k Z n0 E T h cells slots) {dflt low high : Int} {offs : Array Int} {len : Nat} {i : Int32} (hd : decode k.bytes pc = .ok (.tableswitch dflt low high offs, len)) (hout : i.toInt < low ∨ i.toInt > high) (ho : 0 ≤ (pc : Int) + dflt) (hp : ((pc : Int) + dflt).toNat = pc') (g : Go E G (Fm E T pc' Ls st)) : Go E G (Fm E T pc Ls (.int i :: st)) :=
  g.step fun t r => XS.tswOut W.here W.exec rfl rfl (hb W.bytes hd) rfl hout ho hp r
theorem go_ldcInt (W : On k Z n0 E T h cells slots) {index : Nat} {v : Int32} (w : (Cond.constant k.y.cls index v).before a0 Z = true) (hd : decode k.bytes pc = .ok (.ldc index, 2)) (hp : pc + 2 = pc') (g : Go E G (Fm E T pc' Ls (.int v :: st))) : Go E G (Fm E T pc Ls st) := by
  obtain ⟨C, hh, _, _, _, -, -, -, X⟩ := W
  subst hp; exact g.step fun t r => X.ldcInt C.1 C.2.2.2.1 (mvT C.2.2.2.2.2.2.1 w) (g := mkF E.m pc Ls st) rfl (hb C.2.1 hd) _ r
theorem go_ldcwInt (W : On k Z n0 E T h cells slots) {index : Nat} {v : Int32} (w : (Cond.constant k.y.cls index v).before a0 Z = true) (hd : decode k.bytes pc = .ok (.ldc_w index, 3)) (hp : pc + 3 = pc') (g : Go E G (Fm E T pc' Ls (.int v :: st))) : Go E G (Fm E T pc Ls st) := by
  obtain ⟨C, hh, _, _, _, -, -, -, X⟩ := W
  subst hp; exact g.step fun t r => X.ldcwInt C.1 C.2.2.2.1 (mvT C.2.2.2.2.2.2.1 w) (g := mkF E.m pc Ls st) rfl (hb C.2.1 hd) _ r
theorem go_ldc2Long (W : On k Z n0 E T h cells slots) {index : Nat} {v : Int64} (w : (Cond.constantLong k.y.cls index v).before a0 Z = true) (hd : decode k.bytes pc = .ok (.ldc2_w index, 3)) (hp : pc + 3 = pc') (g : Go E G (Fm E T pc' Ls (.long v :: st))) : Go E G (Fm E T pc Ls st) := by
  obtain ⟨C, hh, _, _, _, -, -, -, X⟩ := W
  subst hp; exact g.step fun t r => X.ldc2Long C.1 C.2.2.2.1 (mvT C.2.2.2.2.2.2.1 w) (g := mkF E.m pc Ls st) rfl (hb C.2.1 hd) _ r
/-! fields -/
theorem go_getF (W : On k Z n0 E T h cells slots) {R0 O n d host : String} {index : Nat} (w : (Cond.fieldLink k.y.cls index R0 n d).before a0 Z = true ∨ (Cond.fieldLinkNest k.y.cls index R0 n d host).before a0 Z = true) (via : Via Z R0 O n d) {a : Addr} {v : Value} (F : Fld Z h a O n d v)
    (hd : decode k.bytes pc = .ok (.getfield index, 3)) (hp : pc + 3 = pc') (g : ∀ T', On k Z n0 E T' h cells slots → Go E G (Fm E T' pc' Ls (v :: st))) : Go E G (Fm E T pc Ls (.ref a :: st)) := by
  obtain ⟨C, hh, L, a1, b1, ha, hb1, hF, X⟩ := W
  subst hp
  obtain ⟨T', X', e', st'⟩ := getF X C.1 C.2.2.2.2.2.2.1 C.2.2.2.1 w via hh F (g := mkF E.m pc Ls (.ref a :: st)) rfl rfl (hb C.2.1 hd)
  exact (g T' ⟨C, e', L, a1, b1, ha, hb1, hF, X'⟩).step st'
theorem go_getS (W : On k Z n0 E T h cells slots) {R0 O n d host : String} {index : Nat} (w : (Cond.fieldLink k.y.cls index R0 n d).before a0 Z = true ∨ (Cond.fieldLinkNest k.y.cls index R0 n d host).before a0 Z = true) (via : Via Z R0 O n d) {v : Value} (F : Sta Z h O n d v)
    (hd : decode k.bytes pc = .ok (.getstatic index, 3)) (hp : pc + 3 = pc') (g : ∀ T', On k Z n0 E T' h cells slots → Go E G (Fm E T' pc' Ls (v :: st))) : Go E G (Fm E T pc Ls st) := by
  obtain ⟨C, hh, L, a1, b1, ha, hb1, hF, X⟩ := W
  subst hp
  obtain ⟨T', X', e', st'⟩ := getS2 X C.1 C.2.2.2.2.2.2.1 C.2.2.2.1 w via hh F (g := mkF E.m pc Ls st) rfl (hb C.2.1 hd)
  exact (g T' ⟨C, e', L, a1, b1, ha, hb1, hF, X'⟩).step st'
theorem go_putF (W : On k Z n0 E T h cells slots) {R0 O n d host K : String} {index kk : Nat} {ty : FieldType} (w : (Cond.fieldLink k.y.cls index R0 n d).before a0 Z = true ∨ (Cond.fieldLinkNest k.y.cls index R0 n d host).before a0 Z = true) (via : Via Z R0 O n d) {a : Addr} {v old : Value} (F : Fld Z h a O n d old) (Ex : Exa Z h a K)
    (L : (Cond.lays K O n d).before a0 Z = true ∨ ((Cond.laysFinal K O n d).before a0 Z = true ∧ k.y.cls = O ∧ k.y.name = "<init>")) (wi : (Cond.instantiable K kk).before a0 Z = true) (hty : parseFieldDescriptor d = some ty) (hn : narrow ty v = v) (hf : fits ty v = true) (hn0 : n0 ≤ a)
    (hd : decode k.bytes pc = .ok (.putfield index, 3)) (hp : pc + 3 = pc') (g : ∀ T' h', On k Z n0 E T' h' cells slots → Wr h h' a (Jvm.RoadKit.slotOf Z O n d) v → Go E G (Fm E T' pc' Ls st)) : Go E G (Fm E T pc Ls (v :: .ref a :: st)) := by
  obtain ⟨C, hh, Lc, a1, b1, ha, hb1, hF, X⟩ := W
  subst hp
  obtain ⟨T', h', X', e', W', st'⟩ := putF X C.1 C.2.2.2.2.2.2.1 C.2.2.2.1 w via hh F Ex (L.imp id fun q => ⟨q.1, q.2.1, C.2.2.2.2.2.2.2.1.trans q.2.2⟩) wi hty hn hf (g := mkF E.m pc Ls (v :: .ref a :: st)) rfl rfl (hb C.2.1 hd)
  exact (g T' h' ⟨C, e', _, a1, b1, ha, hb1, Fr.snoc X' hF hn0, X'⟩ W').step st'
theorem go_new (W : On k Z n0 E T h cells slots) {K : String} {index n : Nat} (w : (Cond.classLink k.y.cls index K).before a0 Z = true) (wi : (Cond.instantiable K n).before a0 Z = true) (wz : (Cond.initialized K).before a0 Z = true) (hd : decode k.bytes pc = .ok (.new index, 3)) (hc : cells + 1 ≤ k.rm.cells) (hl : slots + n ≤ k.rm.slots) (hp : pc + 3 = pc')
    (g : ∀ T' h' a, a = h.size → On k Z n0 E T' h' (cells + 1) (slots + n) → Ext h h' → Exa Z h' a K → (∀ {O nm d : String} {ty : FieldType}, Laid Z a0 K O nm d → parseFieldDescriptor d = some ty → Fld Z h' a O nm d (defaultValue ty)) → (∃ cell : Cell, h'[a]? = some cell ∧ cell.vm = .none ∧ cell.monitor = {}) → Go E G (Fm E T' pc' Ls (.ref a :: st))) : Go E G (Fm E T pc Ls st) := by
  obtain ⟨C, hh, L, a1, b1, ha, hb1, hF, X⟩ := W
  subst hp
  obtain ⟨T', h', X', e', E', A', D', M', st'⟩ := newO X C.1 C.2.2.2.2.2.2.1 C.2.2.2.1 w wi wz hh (g := mkF E.m pc Ls st) rfl (hb C.2.1 hd) (Nat.le_trans (Nat.add_le_add_right ha 1) hc) (Nat.le_trans (Nat.add_le_add_right hb1 n) hl)
  exact (g T' h' _ rfl ⟨C, e', L, _, _, Nat.add_le_add_right ha 1, Nat.add_le_add_right hb1 n, hF, X'⟩ E' A' D' M').step st'
theorem go_initO (W : On k Z n0 E T h cells slots) {index : Nat} (w1 : (Cond.methodLink k.y.cls index Lib.objectInit).before a0 Z = true) (w2 : (Cond.instanceMethod Lib.objectInit).before a0 Z = true) (w3 : (Cond.code Lib.objectInit ⟨#[0xb1]⟩ 1 none).before a0 Z = true) {a : Addr} (hd : decode k.bytes pc = .ok (.invokespecial index, 3)) (hm : Ls.size = k.maxL) (hf : 1 ≤ k.rm.frames) (hl : (st.map fun v => v.category).sum + 12 ≤ k.rm.locals) (hp : pc + 3 = pc')
    (g : ∀ T', On k Z n0 E T' h cells slots → Go E G (Fm E T' pc' Ls st)) : Go E G (Fm E T pc Ls (.ref a :: st)) := by
  obtain ⟨C, hh, L, a1, b1, ha, hb1, hF, X⟩ := W
  subst hp
  obtain ⟨T', X', e', st'⟩ := initO X C.1 C.2.2.2.2.2.2.1 C.2.2.2.1 w1 w2 w3 hh (g := mkF E.m pc Ls (.ref a :: st)) rfl (hm.trans C.2.2.1.symm) rfl (hb C.2.1 hd) hf (W := (st.map fun v => v.category).sum) (by show 2 * 0 + _ ≤ _; omega) hl
  exact (g T' ⟨C, e', L, a1, b1, ha, hb1, hF, X'⟩).step st'
theorem go_castY (W : On k Z n0 E T h cells slots) {K : String} {index : Nat} (w : (Cond.classLink k.y.cls index K).before a0 Z = true) {a : Addr} (F : Ins Z h a K true) (hd : decode k.bytes pc = .ok (.checkcast index, 3)) (hp : pc + 3 = pc') (g : ∀ T', On k Z n0 E T' h cells slots → Go E G (Fm E T' pc' Ls (.ref a :: st))) : Go E G (Fm E T pc Ls (.ref a :: st)) := by
  obtain ⟨C, hh, L, a1, b1, ha, hb1, hF, X⟩ := W
  subst hp
  obtain ⟨T', X', e', st'⟩ := castY X C.1 C.2.2.2.2.2.2.1 C.2.2.2.1 w hh F (g := mkF E.m pc Ls (.ref a :: st)) rfl rfl (hb C.2.1 hd)
  exact (g T' ⟨C, e', L, a1, b1, ha, hb1, hF, X'⟩).step st'
theorem go_instY (W : On k Z n0 E T h cells slots) {K : String} {index : Nat} (w : (Cond.classLink k.y.cls index K).before a0 Z = true) {a : Addr} (F : Ins Z h a K true) (hd : decode k.bytes pc = .ok (.instanceof index, 3)) (hp : pc + 3 = pc') (g : ∀ T', On k Z n0 E T' h cells slots → Go E G (Fm E T' pc' Ls (.int 1 :: st))) : Go E G (Fm E T pc Ls (.ref a :: st)) := by
  obtain ⟨C, hh, L, a1, b1, ha, hb1, hF, X⟩ := W
  subst hp
  obtain ⟨T', X', e', st'⟩ := instY X C.1 C.2.2.2.2.2.2.1 C.2.2.2.1 w hh F (g := mkF E.m pc Ls (.ref a :: st)) rfl rfl (hb C.2.1 hd)
  exact (g T' ⟨C, e', L, a1, b1, ha, hb1, hF, X'⟩).step st'
/-! arrays -/
theorem go_newP (W : On k Z n0 E T h cells slots) {aty : ArrayType} (w : (Cond.arrayClass (newarray.typeOf aty)).before a0 Z = true) {n : Int32} (hd : decode k.bytes pc = .ok (.newarray aty, 2)) (hn : ¬ n < 0) (cap : Nat) (hcap : n.toNatClampNeg ≤ cap) (hb8 : cap * 8 ≤ 536870912) (hc : cells + 1 ≤ k.rm.cells) (hl : slots + cap ≤ k.rm.slots) (hp : pc + 2 = pc')
    (g : ∀ T' h' cA a, a = h.size → On k Z n0 E T' h' (cells + 1) (slots + cap) → Ext h h' → Arr Z h' a (newA cA (newarray.typeOf aty) n) (newarray.typeOf aty) → Go E G (Fm E T' pc' Ls (.ref a :: st))) : Go E G (Fm E T pc Ls (.int n :: st)) := by
  obtain ⟨C, hh, L, a1, b1, ha, hb1, hF, X⟩ := W
  subst hp
  obtain ⟨T', h', cA, X', e', E', A', st'⟩ := newP X C.1 C.2.2.2.2.2.2.1 w hh (g := mkF E.m pc Ls (.int n :: st)) rfl (hb C.2.1 hd) rfl hn hcap hb8 (Nat.le_trans (Nat.add_le_add_right ha 1) hc) (Nat.le_trans (Nat.add_le_add_right hb1 cap) hl)
  exact (g T' h' cA _ rfl ⟨C, e', L, _, _, Nat.add_le_add_right ha 1, Nat.add_le_add_right hb1 cap, hF, X'⟩ E' A').step st'
theorem go_arraylength (W : On k Z n0 E T h cells slots) {a : Addr} {cl : Cell} {ty : FieldType} {z : Int32} (A : Arr Z h a cl ty) (hz : cl.slots.size.toInt32 = z) (hd : decode k.bytes pc = .ok (.arraylength, 1)) (hp : pc + 1 = pc') (g : Go E G (Fm E T pc' Ls (.int z :: st))) : Go E G (Fm E T pc Ls (.ref a :: st)) := by
  obtain ⟨C, hh, L, a1, b1, ha, hb1, hF, X⟩ := W
  subst hp; subst hz
  exact g.step fun t r => X.arraylength C.1 (by rw [hh]; exact A.1) (State.isArrayOf_alike C.2.2.2.2.2.2.1.alike A.2.1) (g := mkF E.m pc Ls (.ref a :: st)) rfl rfl (hb C.2.1 hd) _ r
theorem go_stI (W : On k Z n0 E T h cells slots) {a : Addr} {cl : Cell} (A : Arr Z h a cl .int) {j : Int32} {x : Int32} (hj : ¬ (j < 0 ∨ cl.slots.size ≤ j.toNatClampNeg)) (hn0 : n0 ≤ a) (hd : decode k.bytes pc = .ok (.iastore, 1)) (hp : pc + 1 = pc') (g : ∀ T' h', On k Z n0 E T' h' cells slots → Wr h h' a j.toNatClampNeg (.int x) → Go E G (Fm E T' pc' Ls st)) : Go E G (Fm E T pc Ls (.int x :: .int j :: .ref a :: st)) := by
  obtain ⟨C, hh, L, a1, b1, ha, hb1, hF, X⟩ := W
  subst hp
  obtain ⟨T', h', X', e', W', st'⟩ := stI X C.1 C.2.2.2.2.2.2.1 hh A hj (g := mkF E.m pc Ls (.int x :: .int j :: .ref a :: st)) rfl rfl (hb C.2.1 hd)
  exact (g T' h' ⟨C, e', _, a1, b1, ha, hb1, Fr.snoc X' hF hn0, X'⟩ W').step st'
theorem go_stJ (W : On k Z n0 E T h cells slots) {a : Addr} {cl : Cell} (A : Arr Z h a cl .long) {j : Int32} {x : Int64} (hj : ¬ (j < 0 ∨ cl.slots.size ≤ j.toNatClampNeg)) (hn0 : n0 ≤ a) (hd : decode k.bytes pc = .ok (.lastore, 1)) (hp : pc + 1 = pc') (g : ∀ T' h', On k Z n0 E T' h' cells slots → Wr h h' a j.toNatClampNeg (.long x) → Go E G (Fm E T' pc' Ls st)) : Go E G (Fm E T pc Ls (.long x :: .int j :: .ref a :: st)) := by
  obtain ⟨C, hh, L, a1, b1, ha, hb1, hF, X⟩ := W
  subst hp
  obtain ⟨T', h', X', e', W', st'⟩ := stJ X C.1 C.2.2.2.2.2.2.1 hh A hj (g := mkF E.m pc Ls (.long x :: .int j :: .ref a :: st)) rfl rfl (hb C.2.1 hd)
  exact (g T' h' ⟨C, e', _, a1, b1, ha, hb1, Fr.snoc X' hF hn0, X'⟩ W').step st'
theorem go_stC (W : On k Z n0 E T h cells slots) {a : Addr} {cl : Cell} (A : Arr Z h a cl .char) {j : Int32} {x : Int32} (hj : ¬ (j < 0 ∨ cl.slots.size ≤ j.toNatClampNeg)) (hn0 : n0 ≤ a) (hd : decode k.bytes pc = .ok (.castore, 1)) (hp : pc + 1 = pc') (g : ∀ T' h', On k Z n0 E T' h' cells slots → Wr h h' a j.toNatClampNeg (.int (nar .char x)) → Go E G (Fm E T' pc' Ls st)) : Go E G (Fm E T pc Ls (.int x :: .int j :: .ref a :: st)) := by
  obtain ⟨C, hh, L, a1, b1, ha, hb1, hF, X⟩ := W
  subst hp
  obtain ⟨T', h', X', e', W', st'⟩ := stC X C.1 C.2.2.2.2.2.2.1 hh A hj (g := mkF E.m pc Ls (.int x :: .int j :: .ref a :: st)) rfl rfl (hb C.2.1 hd)
  exact (g T' h' ⟨C, e', _, a1, b1, ha, hb1, Fr.snoc X' hF hn0, X'⟩ W').step st'
theorem go_stB (W : On k Z n0 E T h cells slots) {a : Addr} {cl : Cell} (A : Arr Z h a cl .byte) {j : Int32} {x : Int32} (hj : ¬ (j < 0 ∨ cl.slots.size ≤ j.toNatClampNeg)) (hn0 : n0 ≤ a) (hd : decode k.bytes pc = .ok (.bastore, 1)) (hp : pc + 1 = pc') (g : ∀ T' h', On k Z n0 E T' h' cells slots → Wr h h' a j.toNatClampNeg (.int (nar .byte x)) → Go E G (Fm E T' pc' Ls st)) : Go E G (Fm E T pc Ls (.int x :: .int j :: .ref a :: st)) := by
  obtain ⟨C, hh, L, a1, b1, ha, hb1, hF, X⟩ := W
  subst hp
  obtain ⟨T', h', X', e', W', st'⟩ := stB X C.1 C.2.2.2.2.2.2.1 hh A hj (g := mkF E.m pc Ls (.int x :: .int j :: .ref a :: st)) rfl rfl (hb C.2.1 hd)
  exact (g T' h' ⟨C, e', _, a1, b1, ha, hb1, Fr.snoc X' hF hn0, X'⟩ W').step st'
theorem go_stZ (W : On k Z n0 E T h cells slots) {a : Addr} {cl : Cell} (A : Arr Z h a cl .boolean) {j : Int32} {x : Int32} (hj : ¬ (j < 0 ∨ cl.slots.size ≤ j.toNatClampNeg)) (hn0 : n0 ≤ a) (hd : decode k.bytes pc = .ok (.bastore, 1)) (hp : pc + 1 = pc') (g : ∀ T' h', On k Z n0 E T' h' cells slots → Wr h h' a j.toNatClampNeg (.int (nar .boolean x)) → Go E G (Fm E T' pc' Ls st)) : Go E G (Fm E T pc Ls (.int x :: .int j :: .ref a :: st)) := by
  obtain ⟨C, hh, L, a1, b1, ha, hb1, hF, X⟩ := W
  subst hp
  obtain ⟨T', h', X', e', W', st'⟩ := stZ X C.1 C.2.2.2.2.2.2.1 hh A hj (g := mkF E.m pc Ls (.int x :: .int j :: .ref a :: st)) rfl rfl (hb C.2.1 hd)
  exact (g T' h' ⟨C, e', _, a1, b1, ha, hb1, Fr.snoc X' hF hn0, X'⟩ W').step st'
theorem go_iaload (W : On k Z n0 E T h cells slots) {a : Addr} {cl : Cell} (A : Arr Z h a cl .int) {j : Int32} {v : Value} (hj : ¬ (j < 0 ∨ cl.slots.size ≤ j.toNatClampNeg)) (hat : cl.slots[j.toNatClampNeg]? = some v) (hd : decode k.bytes pc = .ok (.iaload, 1)) (hp : pc + 1 = pc') (g : Go E G (Fm E T pc' Ls (v :: st))) : Go E G (Fm E T pc Ls (.int j :: .ref a :: st)) := by
  obtain ⟨C, hh, L, a1, b1, ha, hb1, hF, X⟩ := W
  subst hp
  exact g.step fun t r => X.iaload C.1 (j := j) (v := v) (by rw [hh]; exact A.1) (State.isArrayOf_alike C.2.2.2.2.2.2.1.alike A.2.1) A.2.2 hj hat (g := mkF E.m pc Ls (.int j :: .ref a :: st)) rfl rfl (hb C.2.1 hd) _ r
theorem go_laload (W : On k Z n0 E T h cells slots) {a : Addr} {cl : Cell} (A : Arr Z h a cl .long) {j : Int32} {v : Value} (hj : ¬ (j < 0 ∨ cl.slots.size ≤ j.toNatClampNeg)) (hat : cl.slots[j.toNatClampNeg]? = some v) (hd : decode k.bytes pc = .ok (.laload, 1)) (hp : pc + 1 = pc') (g : Go E G (Fm E T pc' Ls (v :: st))) : Go E G (Fm E T pc Ls (.int j :: .ref a :: st)) := by
  obtain ⟨C, hh, L, a1, b1, ha, hb1, hF, X⟩ := W
  subst hp
  exact g.step fun t r => X.laload C.1 (j := j) (v := v) (by rw [hh]; exact A.1) (State.isArrayOf_alike C.2.2.2.2.2.2.1.alike A.2.1) A.2.2 hj hat (g := mkF E.m pc Ls (.int j :: .ref a :: st)) rfl rfl (hb C.2.1 hd) _ r
theorem go_caload (W : On k Z n0 E T h cells slots) {a : Addr} {cl : Cell} (A : Arr Z h a cl .char) {j : Int32} {v : Value} (hj : ¬ (j < 0 ∨ cl.slots.size ≤ j.toNatClampNeg)) (hat : cl.slots[j.toNatClampNeg]? = some v) (hd : decode k.bytes pc = .ok (.caload, 1)) (hp : pc + 1 = pc') (g : Go E G (Fm E T pc' Ls (v :: st))) : Go E G (Fm E T pc Ls (.int j :: .ref a :: st)) := by
  obtain ⟨C, hh, L, a1, b1, ha, hb1, hF, X⟩ := W
  subst hp
  exact g.step fun t r => X.caload C.1 (j := j) (v := v) (by rw [hh]; exact A.1) (State.isArrayOf_alike C.2.2.2.2.2.2.1.alike A.2.1) A.2.2 hj hat (g := mkF E.m pc Ls (.int j :: .ref a :: st)) rfl rfl (hb C.2.1 hd) _ r
theorem go_baload (W : On k Z n0 E T h cells slots) {a : Addr} {cl : Cell} (A : Arr Z h a cl .byte) {j : Int32} {v : Value} (hj : ¬ (j < 0 ∨ cl.slots.size ≤ j.toNatClampNeg)) (hat : cl.slots[j.toNatClampNeg]? = some v) (hd : decode k.bytes pc = .ok (.baload, 1)) (hp : pc + 1 = pc') (g : Go E G (Fm E T pc' Ls (v :: st))) : Go E G (Fm E T pc Ls (.int j :: .ref a :: st)) := by
  obtain ⟨C, hh, L, a1, b1, ha, hb1, hF, X⟩ := W
  subst hp
  exact g.step fun t r => X.baloadBytes C.1 (j := j) (v := v) (by rw [hh]; exact A.1) (State.isArrayOf_alike C.2.2.2.2.2.2.1.alike A.2.1) A.2.2 hj hat (g := mkF E.m pc Ls (.int j :: .ref a :: st)) rfl rfl (hb C.2.1 hd) _ r
theorem go_aaload (W : On k Z n0 E T h cells slots) {a : Addr} {cl : Cell} {ty : FieldType} (A : Arr Z h a cl ty) (hty : ty.isReference = true) {j : Int32} {v : Value} (hj : ¬ (j < 0 ∨ cl.slots.size ≤ j.toNatClampNeg)) (hat : cl.slots[j.toNatClampNeg]? = some v) (hd : decode k.bytes pc = .ok (.aaload, 1)) (hp : pc + 1 = pc') (g : Go E G (Fm E T pc' Ls (v :: st))) : Go E G (Fm E T pc Ls (.int j :: .ref a :: st)) := by
  obtain ⟨C, hh, L, a1, b1, ha, hb1, hF, X⟩ := W
  subst hp
  exact g.step fun t r => X.aaload C.1 (j := j) (v := v) (by rw [hh]; exact A.1) (State.isArrayOf_alike C.2.2.2.2.2.2.1.alike A.2.1) hty A.2.2 hj hat (g := mkF E.m pc Ls (.int j :: .ref a :: st)) rfl rfl (hb C.2.1 hd) _ r
/-! the end -/
def EndQ (s : State) (n0 : Nat) (Q : Option Value → Heap → Prop) (C N : Nat) : State → Outcome → Prop := fun t o => ∃ v L, o = .returned v ∧ (Q v t.heap ∧ Fr n0 L) ∧ FrameEnd s o t L C N
/-- a method's contract: from the heap h0, with these arguments, it returns, and Q holds of what it hands back and of the heap that it leaves -/
def Ct (l : Launch) (Z : State) (k : Mt) (as' : Array Value) (h0 : Heap) (n0 : Nat) (Q : Option Value → Heap → Prop) : Prop :=
  ∀ ws, MetFree l k.y (head1 (Cond.code k.y k.bytes k.maxL k.ret :: ws) k.rm) (fun a U => a = as' ∧ Z.Warmed39 U.vm ∧ U.heap = h0) (fun _ _ _ _ _ => True) (fun _ U o U' => ∃ v L, o = .returned v ∧ (Q v U'.heap ∧ Fr n0 L) ∧ FrameEnd U o U' L k.rm.cells k.rm.slots)
theorem Ct.of {l : Launch} {as' : Array Value} {h0 : Heap} {Q : Option Value → Heap → Prop} (hpl : plainFor k.y = true) (ef : ∀ m, entryFrame m as' k.maxL = mkF m 0 Ls []) (body : ∀ (E : Cx) (T : State), On k Z n0 E T h0 0 0 → Go E (EndQ E.s n0 Q k.rm.cells k.rm.slots) (Fm E T 0 Ls [])) : Ct l Z k as' h0 n0 Q := fun ws => by
  refine MetFree.of_bodySF hpl hisR ?_
  intro p e s m args below meth c s₁ Bd hml0 hP hK
  obtain ⟨rfl, hZ, hh⟩ := hP
  have X0 : Stand p l e k.rm s m args below meth c s₁ [] 0 0 := Stand.of_body Bd
  obtain ⟨s₂, o, h1, h2, h3, h4⟩ := body (p, l, e, s, m, args, below, meth, c) s₁ ⟨⟨Bd.exec, Bd.bytes, hml0, findClass_of_methodNamed Bd.named, Bd.returns, Bd.notSynchronized, hZ, (name_of_methodNamed Bd.named Bd.method).1, Bd.named⟩, by rw [← hh, Bd.state]; rfl, [], 0, 0, Nat.le_refl _, Nat.le_refl _, Fr.nil n0, X0⟩
  exact ⟨s₂, o, castTop (ef m) h1, h2, h3, h4⟩
theorem Ct.mono {l : Launch} {as' : Array Value} {h0 : Heap} {Q Q' : Option Value → Heap → Prop} (c : Ct l Z k as' h0 n0 Q) (q : ∀ v h, Q v h → Q' v h) : Ct l Z k as' h0 n0 Q' := fun ws p e ha hc hk s m args below hf happ hP hK => by
  obtain ⟨n, o, h1, h2, h3, v, L, h4, h5, h6⟩ := c ws p e ha hc hk s m args below hf happ hP hK
  exact ⟨n, o, h1, h2, h3, v, L, h4, ⟨q _ _ h5.1, h5.2⟩, h6⟩
theorem go_ret (W : On k Z n0 E T h cells slots) {Q : Option Value → Heap → Prop} {C N : Nat} {w : Value} {t : FieldType} {i : Instr} (hret : k.ret = some t) (hn : narrow t w = w)
    (hi : (i = .ireturn ∧ (t = .int ∨ t = .boolean ∨ t = .byte ∨ t = .char ∨ t = .short) ∧ ∃ z, w = .int z) ∨ (i = .lreturn ∧ t = .long ∧ ∃ z, w = .long z) ∨ (i = .dreturn ∧ t = .double ∧ ∃ z, w = .double z) ∨ (i = .freturn ∧ t = .float ∧ ∃ z, w = .float z) ∨ (i = .areturn ∧ t.isReference = true ∧ w.isRef = true))
    (hd : decode k.bytes pc = .ok (i, 1)) (hC : cells ≤ C) (hN : slots ≤ N) (hq : Q (some w) h) : Go E (EndQ E.s n0 Q C N) (Fm E T pc Ls (w :: st)) := by
  obtain ⟨⟨c1, c2, c3, c4, c5, c6, c7, c8, c9⟩, hh, L, a1, b1, ha, hb1, hF, X⟩ := W
  have hr : E.meth.sig.returnType = some t := c5.trans hret
  obtain ⟨fs, hr', hrun, hended, hW, hsame⟩ := X.leave (v := some w) (fun h => by rw [hr] at h; cases h) c6
  exact ⟨_, _, retOut X c1 hr hn hi (hb c2 hd) hr', hrun, hended, some w, L, rfl, ⟨by show Q (some w) T.heap; rw [hh]; exact hq, hF⟩, ⟨_, rfl⟩, hW, hsame.mono (Nat.le_trans ha hC) (Nat.le_trans hb1 hN)⟩
theorem go_retI (W : On k Z n0 E T h cells slots) {Q : Option Value → Heap → Prop} {C N : Nat} {w : Int32} {t : FieldType} (hret : k.ret = some t) (ht : t = .int ∨ t = .boolean ∨ t = .byte ∨ t = .char ∨ t = .short) (hn : narrow t (.int w) = .int w) (hd : decode k.bytes pc = .ok (.ireturn, 1)) (hC : cells ≤ C) (hN : slots ≤ N) (hq : Q (some (.int w)) h) : Go E (EndQ E.s n0 Q C N) (Fm E T pc Ls (.int w :: st)) :=
  go_ret W hret hn (Or.inl ⟨rfl, ht, _, rfl⟩) hd hC hN hq
theorem go_retL (W : On k Z n0 E T h cells slots) {Q : Option Value → Heap → Prop} {C N : Nat} {w : Int64} (hret : k.ret = some .long) (hd : decode k.bytes pc = .ok (.lreturn, 1)) (hC : cells ≤ C) (hN : slots ≤ N) (hq : Q (some (.long w)) h) : Go E (EndQ E.s n0 Q C N) (Fm E T pc Ls (.long w :: st)) :=
  go_ret W hret rfl (Or.inr (Or.inl ⟨rfl, rfl, _, rfl⟩)) hd hC hN hq
theorem go_retA (W : On k Z n0 E T h cells slots) {Q : Option Value → Heap → Prop} {C N : Nat} {w : Value} {t : FieldType} (hret : k.ret = some t) (ht : t.isReference = true) (hw : w.isRef = true) (hn : narrow t w = w) (hd : decode k.bytes pc = .ok (.areturn, 1)) (hC : cells ≤ C) (hN : slots ≤ N) (hq : Q (some w) h) : Go E (EndQ E.s n0 Q C N) (Fm E T pc Ls (w :: st)) :=
  go_ret W hret hn (Or.inr (Or.inr (Or.inr (Or.inr ⟨rfl, ht, hw⟩)))) hd hC hN hq
theorem go_retV (W : On k Z n0 E T h cells slots) {Q : Option Value → Heap → Prop} {C N : Nat} (hret : k.ret = none) (hd : decode k.bytes pc = .ok (.return_, 1)) (hC : cells ≤ C) (hN : slots ≤ N) (hq : Q none h) : Go E (EndQ E.s n0 Q C N) (Fm E T pc Ls []) := by
  obtain ⟨⟨c1, c2, c3, c4, c5, c6, c7, c8, c9⟩, hh, L, a1, b1, ha, hb1, hF, X⟩ := W
  have hr : E.meth.sig.returnType = none := c5.trans hret
  obtain ⟨fs, hr', hrun, hended, hW, hsame⟩ := X.leave (v := none) (fun _ => rfl) c6
  exact ⟨_, _, X.returnOut c1 hr (hb c2 hd) hr', hrun, hended, none, L, rfl, ⟨by show Q none T.heap; rw [hh]; exact hq, hF⟩, ⟨_, rfl⟩, hW, hsame.mono (Nat.le_trans ha hC) (Nat.le_trans hb1 hN)⟩
/-! calls: by the callee's contract -/
theorem Ct.back {kc : Mt} {as' : Array Value} {Q : Option Value → Heap → Prop} (c : Ct E.l Z kc as' h n0 Q) (hZ : Z.Warmed39 E.s.vm) (wc : (Cond.code kc.y kc.bytes kc.maxL kc.ret).before a0 Z = true) (wz : (Cond.initialized kc.y.cls).before a0 Z = true) {W len : Nat} (hf : kc.rm.frames + 1 ≤ k.rm.frames) (hl : W + (kc.maxL + 11) + kc.rm.locals ≤ k.rm.locals) :
    Back E.l k.rm E.p E.e E.below E.s E.args kc.y len W (fun A a => a = as' ∧ A.U.heap = h ∧ A.cells + kc.rm.cells ≤ k.rm.cells ∧ A.slots + kc.rm.slots ≤ k.rm.slots)
      (fun A _ v B => ∃ L, (Q v B.U.heap ∧ Fr n0 L) ∧ B.locs = A.locs ++ L ∧ B.cells = A.cells + kc.rm.cells ∧ B.slots = A.slots + kc.rm.slots) :=
  backOf (Q := fun v h L => Q v h ∧ Fr n0 L) (c []) hZ wc wz hf hl
theorem go_callS (W : On k Z n0 E T h cells slots) {kc : Mt} {index : Nat} {argsL rest : List Value} {ps : List FieldType} {r : Option FieldType} {Q : Option Value → Heap → Prop} (w1 : (Cond.methodLink k.y.cls index kc.y).before a0 Z = true) (w2 : (Cond.static kc.y).before a0 Z = true) (w3 : (Cond.initialized kc.y.cls).before a0 Z = true) (w4 : (Cond.code kc.y kc.bytes kc.maxL kc.ret).before a0 Z = true)
    (c : Ct E.l Z kc argsL.toArray h n0 Q) (hy : kc.y.cls ≠ "java/lang/invoke/MethodHandle" ∧ kc.y.cls ≠ "java/lang/invoke/VarHandle") (hdesc : parseMethodDescriptor kc.y.desc = some ⟨ps, r⟩) (hlen : argsL.length = ps.length) (hst : st = argsL.reverse ++ rest) (hm : Ls.size = k.maxL)
    (hf : kc.rm.frames + 1 ≤ k.rm.frames) (hl : (rest.map fun v => v.category).sum + (kc.maxL + 11) + kc.rm.locals ≤ k.rm.locals) (hcl : cells + kc.rm.cells ≤ k.rm.cells) (hsl : slots + kc.rm.slots ≤ k.rm.slots) (hd : decode k.bytes pc = .ok (.invokestatic index, 3)) (hp : pc + 3 = pc')
    (g : ∀ v T' h', Q v h' → On k Z n0 E T' h' (cells + kc.rm.cells) (slots + kc.rm.slots) → Go E G (Fm E T' pc' Ls (v.toList ++ rest))) : Go E G (Fm E T pc Ls st) := by
  obtain ⟨C, hh, L, a1, b1, ha, hb1, hF, X⟩ := W
  subst hp
  have hZ := C.2.2.2.2.2.2.1
  obtain ⟨v, _, ⟨T', L', k', n'⟩, -, X', ⟨Lc, hQ, l', y', z'⟩, st'⟩ := Jvm.LawKit.callS X C.1 (y := kc.y) C.2.2.2.1 (mvT hZ w1) (mvT hZ w2) (mvT hZ w3) (mvT hZ w4) hy (c.back (k := k) (W := (rest.map fun v => v.category).sum) hZ w4 w3 hf hl) (g := mkF E.m pc Ls st) rfl (hm.trans C.2.2.1.symm) (argsL := argsL) (rest := rest) (lenOf hdesc hlen) hst (by show 2 * 0 + _ ≤ _; omega) (hb C.2.1 hd) (fun _ _ => ⟨rfl, hh, Nat.le_trans (Nat.add_le_add_right ha _) hcl, Nat.le_trans (Nat.add_le_add_right hb1 _) hsl⟩)
  dsimp only [Pt.U, Pt.locs, Pt.cells, Pt.slots] at X' l' y' z' st' hQ
  subst l' y' z'
  exact (g v T' _ hQ.1 ⟨C, rfl, _, _, _, Nat.add_le_add_right ha _, Nat.add_le_add_right hb1 _, Fr.app hF hQ.2, X'⟩).step st'
theorem go_callN (W : On k Z n0 E T h cells slots) {kc : Mt} {index : Nat} {a : Addr} {argsL rest : List Value} {ps : List FieldType} {r : Option FieldType} {Q : Option Value → Heap → Prop} (w1 : (Cond.methodLink k.y.cls index kc.y).before a0 Z = true) (w2 : (Cond.instanceMethod kc.y).before a0 Z = true) (w3 : (Cond.initialized kc.y.cls).before a0 Z = true) (w4 : (Cond.code kc.y kc.bytes kc.maxL none).before a0 Z = true)
    (c : Ct E.l Z kc (.ref a :: argsL).toArray h n0 Q) (hi : kc.y.name = "<init>") (hrt : kc.ret = none) (hy : kc.y.cls ≠ "java/lang/invoke/MethodHandle" ∧ kc.y.cls ≠ "java/lang/invoke/VarHandle") (hdesc : parseMethodDescriptor kc.y.desc = some ⟨ps, r⟩) (hlen : argsL.length = ps.length) (hst : st = argsL.reverse ++ .ref a :: rest) (hm : Ls.size = k.maxL)
    (hf : kc.rm.frames + 1 ≤ k.rm.frames) (hl : (rest.map fun v => v.category).sum + (kc.maxL + 11) + kc.rm.locals ≤ k.rm.locals) (hcl : cells + kc.rm.cells ≤ k.rm.cells) (hsl : slots + kc.rm.slots ≤ k.rm.slots) (hd : decode k.bytes pc = .ok (.invokespecial index, 3)) (hp : pc + 3 = pc')
    (g : ∀ v T' h', Q v h' → On k Z n0 E T' h' (cells + kc.rm.cells) (slots + kc.rm.slots) → Go E G (Fm E T' pc' Ls (v.toList ++ rest))) : Go E G (Fm E T pc Ls st) := by
  obtain ⟨C, hh, L, a1, b1, ha, hb1, hF, X⟩ := W
  subst hp
  have hZ := C.2.2.2.2.2.2.1
  obtain ⟨v, _, ⟨T', L', k', n'⟩, -, X', ⟨Lc, hQ, l', y', z'⟩, st'⟩ := X.specialBack C.1 (y := kc.y) hi C.2.2.2.1 (mvT hZ w1) (mvT hZ w2) (mvT hZ w4) hy (c.back (k := k) (W := (rest.map fun v => v.category).sum) hZ (hrt ▸ w4) w3 hf hl) (g := mkF E.m pc Ls st) rfl (hm.trans C.2.2.1.symm) (Steps.refl _) (a := a) (argsL := argsL) (rest := rest) (lenOf hdesc hlen) hst (by show 2 * 0 + _ ≤ _; omega) (hb C.2.1 hd) (fun _ _ => ⟨rfl, hh, Nat.le_trans (Nat.add_le_add_right ha _) hcl, Nat.le_trans (Nat.add_le_add_right hb1 _) hsl⟩)
  dsimp only [Pt.U, Pt.locs, Pt.cells, Pt.slots] at X' l' y' z' st' hQ
  subst l' y' z'
  exact (g v T' _ hQ.1 ⟨C, rfl, _, _, _, Nat.add_le_add_right ha _, Nat.add_le_add_right hb1 _, Fr.app hF hQ.2, X'⟩).step fun t q => st'.trans q
theorem go_callV (W : On k Z n0 E T h cells slots) {kc : Mt} {y : MethodName} {K : String} {index : Nat} {a : Addr} {argsL rest : List Value} {ps : List FieldType} {r : Option FieldType} {Q : Option Value → Heap → Prop} (w1 : (Cond.methodLink k.y.cls index y).before a0 Z = true) (w2 : (Cond.declares y).before a0 Z = true) (nf : NotFace E.s y) (w3 : (Cond.selects K y kc.y).before a0 Z = true) (w4 : (Cond.instanceMethod kc.y).before a0 Z = true) (w5 : (Cond.initialized kc.y.cls).before a0 Z = true) (w6 : (Cond.code kc.y kc.bytes kc.maxL kc.ret).before a0 Z = true)
    (Ex : Exa Z h a K) (c : Ct E.l Z kc (.ref a :: argsL).toArray h n0 Q) (hy : y.cls ≠ "java/lang/invoke/MethodHandle" ∧ y.cls ≠ "java/lang/invoke/VarHandle") (hdesc : parseMethodDescriptor y.desc = some ⟨ps, r⟩) (hlen : argsL.length = ps.length) (hst : st = argsL.reverse ++ .ref a :: rest) (hm : Ls.size = k.maxL)
    (hf : kc.rm.frames + 1 ≤ k.rm.frames) (hl : (rest.map fun v => v.category).sum + (kc.maxL + 11) + kc.rm.locals ≤ k.rm.locals) (hcl : cells + kc.rm.cells ≤ k.rm.cells) (hsl : slots + kc.rm.slots ≤ k.rm.slots) (hd : decode k.bytes pc = .ok (.invokevirtual index, 3)) (hp : pc + 3 = pc')
    (g : ∀ v T' h', Q v h' → On k Z n0 E T' h' (cells + kc.rm.cells) (slots + kc.rm.slots) → Go E G (Fm E T' pc' Ls (v.toList ++ rest))) : Go E G (Fm E T pc Ls st) := by
  obtain ⟨C, hh, L, a1, b1, ha, hb1, hF, X⟩ := W
  subst hp
  have hZ := C.2.2.2.2.2.2.1
  obtain ⟨cq, kq, qa, qb, qc⟩ := isOf (T := T) hZ hh Ex
  obtain ⟨v, _, ⟨T', L', k', n'⟩, -, X', ⟨Lc, hQ, l', y', z'⟩, st'⟩ := X.virtualBack C.1 (y := y) (z := kc.y) C.2.2.2.1 (mvT hZ w1) (mvT hZ w2) nf (mvT hZ w3) (mvT hZ w4) hy (c.back (k := k) (W := (rest.map fun v => v.category).sum) hZ w6 w5 hf hl) qa qc (g := mkF E.m pc Ls st) rfl (hm.trans C.2.2.1.symm) (Steps.refl _) (argsL := argsL) (rest := rest) (lenOf hdesc hlen) hst (by show 2 * 0 + _ ≤ _; omega) (hb C.2.1 hd) (fun _ _ => ⟨rfl, hh, Nat.le_trans (Nat.add_le_add_right ha _) hcl, Nat.le_trans (Nat.add_le_add_right hb1 _) hsl⟩)
  dsimp only [Pt.U, Pt.locs, Pt.cells, Pt.slots] at X' l' y' z' st' hQ
  subst l' y' z'
  exact (g v T' _ hQ.1 ⟨C, rfl, _, _, _, Nat.add_le_add_right ha _, Nat.add_le_add_right hb1 _, Fr.app hF hQ.2, X'⟩).step fun t q => st'.trans q
theorem nf_sel (W : On k Z n0 E T h cells slots) {y : MethodName} (w : (Cond.selects y.cls y y).before a0 Z = true) : NotFace E.s y := notFace_of_selects (args := #[]) (mvT W.hZ w)
theorem nf_sup (W : On k Z n0 E T h cells slots) {y : MethodName} {S : String} (w : (Cond.superclass y.cls S).before a0 Z = true) : NotFace E.s y := nf_super (args := #[]) (mvT W.hZ w)

theorem go_instNo (W : On k Z n0 E T h cells slots) {K C : String} {index : Nat} (w : (Cond.classLink k.y.cls index K).before a0 Z = true) {a : Addr} (Ex : Exa Z h a C) (F : ∃ c t, Z.vm.findClass C = some c ∧ Z.vm.findClass K = some t ∧ Z.vm.assignable c t = false) (hd : decode k.bytes pc = .ok (.instanceof index, 3)) (hp : pc + 3 = pc') (g : ∀ T', On k Z n0 E T' h cells slots → Go E G (Fm E T' pc' Ls (.int 0 :: st))) : Go E G (Fm E T pc Ls (.ref a :: st)) := by
  obtain ⟨C, hh, L, a1, b1, ha, hb1, hF, X⟩ := W
  subst hp
  obtain ⟨T', X', e', st'⟩ := instNo X C.1 C.2.2.2.2.2.2.1 C.2.2.2.1 w hh Ex F (g := mkF E.m pc Ls (.ref a :: st)) rfl rfl (hb C.2.1 hd)
  exact (g T' ⟨C, e', L, a1, b1, ha, hb1, hF, X'⟩).step st'
theorem go_instNull (W : On k Z n0 E T h cells slots) {index : Nat} (hd : decode k.bytes pc = .ok (.instanceof index, 3)) (hp : pc + 3 = pc') (g : Go E G (Fm E T pc' Ls (.int 0 :: st))) : Go E G (Fm E T pc Ls (.null :: st)) := by
  obtain ⟨C, hh, L, a1, b1, ha, hb1, hF, X⟩ := W
  subst hp
  exact g.step (X.instanceofNull C.1 (g := mkF E.m pc Ls (.null :: st)) rfl rfl (hb C.2.1 hd))
theorem go_castNull (W : On k Z n0 E T h cells slots) {index : Nat} (hd : decode k.bytes pc = .ok (.checkcast index, 3)) (hp : pc + 3 = pc') (g : Go E G (Fm E T pc' Ls (.null :: st))) : Go E G (Fm E T pc Ls (.null :: st)) := by
  obtain ⟨C, hh, L, a1, b1, ha, hb1, hF, X⟩ := W
  subst hp
  exact g.step (X.checkcastNull C.1 (g := mkF E.m pc Ls (.null :: st)) rfl rfl (hb C.2.1 hd))
theorem go_putFN (W : On k Z n0 E T h cells slots) {R0 O n d K : String} {index kk : Nat} {ty : FieldType} (w : (Cond.fieldLink k.y.cls index R0 n d).before a0 Z = true) (via : Via Z R0 O n d) {a : Addr} {v v' old : Value} (F : Fld Z h a O n d old) (Ex : Exa Z h a K)
    (L : (Cond.lays K O n d).before a0 Z = true ∨ ((Cond.laysFinal K O n d).before a0 Z = true ∧ k.y.cls = O ∧ k.y.name = "<init>")) (wi : (Cond.instantiable K kk).before a0 Z = true) (hty : parseFieldDescriptor d = some ty) (hn : narrow ty v = v') (hf : fits ty v' = true) (hn0 : n0 ≤ a)
    (hd : decode k.bytes pc = .ok (.putfield index, 3)) (hp : pc + 3 = pc') (g : ∀ T' h', On k Z n0 E T' h' cells slots → Wr h h' a (Jvm.RoadKit.slotOf Z O n d) v' → Go E G (Fm E T' pc' Ls st)) : Go E G (Fm E T pc Ls (v :: .ref a :: st)) := by
  obtain ⟨C, hh, Lc, a1, b1, ha, hb1, hF, X⟩ := W
  subst hp
  obtain ⟨T', h', X', e', W', st'⟩ := putFN X C.1 C.2.2.2.2.2.2.1 C.2.2.2.1 w via hh F Ex (L.imp id fun q => ⟨q.1, q.2.1, C.2.2.2.2.2.2.2.1.trans q.2.2⟩) wi hty hn hf (g := mkF E.m pc Ls (v :: .ref a :: st)) rfl rfl (hb C.2.1 hd)
  exact (g T' h' ⟨C, e', _, a1, b1, ha, hb1, Fr.snoc X' hF hn0, X'⟩ W').step st'
theorem go_newR (W : On k Z n0 E T h cells slots) {K : String} {index : Nat} (w1 : (Cond.classLink k.y.cls index K).before a0 Z = true) (w2 : (Cond.arrayOver (.object K)).before a0 Z = true) {n : Int32} (hd : decode k.bytes pc = .ok (.anewarray index, 3)) (hn : ¬ n < 0) (cap : Nat) (hcap : n.toNatClampNeg ≤ cap) (hb8 : cap * 8 ≤ 536870912) (hc : cells + 1 ≤ k.rm.cells) (hl : slots + cap ≤ k.rm.slots) (hp : pc + 3 = pc')
    (g : ∀ T' h' cA a, a = h.size → On k Z n0 E T' h' (cells + 1) (slots + cap) → Ext h h' → Arr Z h' a (newA cA (.object K) n) (.object K) → Ovr Z cA K → Go E G (Fm E T' pc' Ls (.ref a :: st))) : Go E G (Fm E T pc Ls (.int n :: st)) := by
  obtain ⟨C, hh, L, a1, b1, ha, hb1, hF, X⟩ := W
  subst hp
  obtain ⟨T', h', cA, X', e', E', A', O', st'⟩ := newR X C.1 C.2.2.2.2.2.2.1 C.2.2.2.1 w1 w2 hh (g := mkF E.m pc Ls (.int n :: st)) rfl (hb C.2.1 hd) rfl hn hcap hb8 (Nat.le_trans (Nat.add_le_add_right ha 1) hc) (Nat.le_trans (Nat.add_le_add_right hb1 cap) hl)
  exact (g T' h' cA _ rfl ⟨C, e', L, _, _, Nat.add_le_add_right ha 1, Nat.add_le_add_right hb1 cap, hF, X'⟩ E' A' O').step st'
theorem go_stR (W : On k Z n0 E T h cells slots) {a : Addr} {cl : Cell} {ty : FieldType} (A : Arr Z h a cl ty) {j : Int32} {v : Value} (hj : ¬ (j < 0 ∨ cl.slots.size ≤ j.toNatClampNeg)) (hty : ty.isReference = true) (F : Sto Z h a v) (hn0 : n0 ≤ a) (hd : decode k.bytes pc = .ok (.aastore, 1)) (hp : pc + 1 = pc') (g : ∀ T' h', On k Z n0 E T' h' cells slots → Wr h h' a j.toNatClampNeg v → Go E G (Fm E T' pc' Ls st)) : Go E G (Fm E T pc Ls (v :: .int j :: .ref a :: st)) := by
  obtain ⟨C, hh, L, a1, b1, ha, hb1, hF, X⟩ := W
  subst hp
  obtain ⟨T', h', X', e', W', st'⟩ := stR X C.1 C.2.2.2.2.2.2.1 hh A hj hty F (g := mkF E.m pc Ls (v :: .int j :: .ref a :: st)) rfl rfl (hb C.2.1 hd)
  exact (g T' h' ⟨C, e', _, a1, b1, ha, hb1, Fr.snoc X' hF hn0, X'⟩ W').step st'
theorem go_newPE (W : On k Z n0 E T h cells slots) {aty : ArrayType} (w : (Cond.arrayClass (newarray.typeOf aty)).before a0 Z = true) {n : Int32} (hd : decode k.bytes pc = .ok (.newarray aty, 2)) (hn : ¬ n < 0) (cap : Nat) (hcap : n.toNatClampNeg ≤ cap) (hb8 : cap * 8 ≤ 536870912) (hc : cells + 1 ≤ k.rm.cells) (hl : slots + cap ≤ k.rm.slots) {ad : String} (had : "[" ++ (newarray.typeOf aty).toString = ad) (hp : pc + 2 = pc')
    (g : ∀ T' h' cA a, a = h.size → On k Z n0 E T' h' (cells + 1) (slots + cap) → Ext h h' → Arr Z h' a (newA cA (newarray.typeOf aty) n) (newarray.typeOf aty) → Exa Z h' a ad → Go E G (Fm E T' pc' Ls (.ref a :: st))) : Go E G (Fm E T pc Ls (.int n :: st)) := by
  obtain ⟨C, hh, L, a1, b1, ha, hb1, hF, X⟩ := W
  subst hp
  obtain ⟨T', h', cA, X', e', E', A', Q', st'⟩ := newPE X C.1 C.2.2.2.2.2.2.1 w hh (g := mkF E.m pc Ls (.int n :: st)) rfl (hb C.2.1 hd) rfl hn hcap hb8 (Nat.le_trans (Nat.add_le_add_right ha 1) hc) (Nat.le_trans (Nat.add_le_add_right hb1 cap) hl) had
  exact (g T' h' cA _ rfl ⟨C, e', L, _, _, Nat.add_le_add_right ha 1, Nat.add_le_add_right hb1 cap, hF, X'⟩ E' A' Q').step st'
theorem go_cloneA (W : On k Z n0 E T h cells slots) {ad : String} {index : Nat} (w1 : (Cond.methodLink k.y.cls index ⟨ad, "clone", "()Ljava/lang/Object;"⟩).before a0 Z = true) (w2 : (Cond.sameMethod ad "java/lang/Object" "clone" "()Ljava/lang/Object;").before a0 Z = true) (w3 : (Cond.native ⟨"java/lang/Object", "clone", "()Ljava/lang/Object;"⟩).before a0 Z = true)
    (w4 : (Cond.instanceMethod ⟨"java/lang/Object", "clone", "()Ljava/lang/Object;"⟩).before a0 Z = true) (w5 : (Cond.selects ad ⟨ad, "clone", "()Ljava/lang/Object;"⟩ ⟨"java/lang/Object", "clone", "()Ljava/lang/Object;"⟩).before a0 Z = true) (w6 : (Cond.castable ad "java/lang/Cloneable").before a0 Z = true)
    {a : Addr} {cl : Cell} {ty : FieldType} (A : Arr Z h a cl ty) (Ex : Exa Z h a ad) (F : FitC Z cl) (hd : decode k.bytes pc = .ok (.invokevirtual index, 3)) (hm : Ls.size = k.maxL) (hf : 1 ≤ k.rm.frames) (hl : (st.map fun v => v.category).sum + 14 ≤ k.rm.locals) (cap : Nat) (hcap : cl.slots.size ≤ cap) (hc : cells + 1 ≤ k.rm.cells) (hsl : slots + cap ≤ k.rm.slots) (hp : pc + 3 = pc')
    (g : ∀ T' h' b, b = h.size → On k Z n0 E T' h' (cells + 1) (slots + cap) → Ext h h' → Arr Z h' b (cloneOf cl) ty → Exa Z h' b ad → Go E G (Fm E T' pc' Ls (.ref b :: st))) : Go E G (Fm E T pc Ls (.ref a :: st)) := by
  obtain ⟨C, hh, L, a1, b1, ha, hb1, hF, X⟩ := W
  subst hp
  obtain ⟨T', h', X', e', E', A', Q', st'⟩ := cloneA X C.1 C.2.2.2.2.2.2.1 C.2.2.2.1 w1 w2 w3 w4 w5 w6 hh A Ex F (g := mkF E.m pc Ls (.ref a :: st)) rfl (hm.trans C.2.2.1.symm) rfl (hb C.2.1 hd) hf (W := (st.map fun v => v.category).sum) (by show 2 * 0 + _ ≤ _; omega) hl hcap (Nat.le_trans (Nat.add_le_add_right ha 1) hc) (Nat.le_trans (Nat.add_le_add_right hb1 cap) hsl)
  exact (g T' h' _ rfl ⟨C, e', L, _, _, Nat.add_le_add_right ha 1, Nat.add_le_add_right hb1 cap, hF, X'⟩ E' A' Q').step st'
theorem go_lamConst (W : On k Z n0 E T h cells slots) {index : Nat} {sh : Lambda.Shape} (w : (Cond.lambdaSite k.y pc index sh).before a0 Z = true) (hcap : sh.captured = []) (hd : decode k.bytes pc = .ok (.invokedynamic index, 5)) (hm : Ls.size = k.maxL) (hl : (st.map fun v => v.category).sum + 3072 ≤ k.rm.locals) (hp : pc + 5 = pc') (g : ∀ a : Addr, Go E G (Fm E T pc' Ls (.ref a :: st))) : Go E G (Fm E T pc Ls st) := by
  obtain ⟨C, hh, L, a1, b1, ha, hb1, hF, X⟩ := W
  subst hp
  have hZ := C.2.2.2.2.2.2.1
  obtain ⟨cK, one, hat⟩ := Cond.lambdaSite_spec w
  obtain ⟨mD, kD, cfD, i0, p0, lk, hmD, hkD, -, -, -, hfind, -, -, hl'⟩ := State.lambdaAt?_spec hat
  have hn : Z.methodNamed? k.y = some E.m := by
    have q : (Z.setVm E.s.vm).methodNamed? k.y = some E.m := C.2.2.2.2.2.2.2.2
    rw [State.methodNamed?_setVm hZ.alike] at q; exact q
  cases hn.symm.trans hmD
  obtain ⟨k', q1, q2⟩ := hZ.alike.2.2 _ _ hkD
  rcases hl' with ⟨a, cell, rfl, -⟩ | ⟨-, -, hne⟩
  · have hw : E.e.platform.lambdaLinkWords = 3072 := by rw [X.admits.platform]
    exact (g a).step fun t r => X.lambdaConstant C.1 (g := mkF E.m pc Ls st) rfl (hm.trans C.2.2.1.symm) (hb C.2.1 hd) q1 (by rw [q2]; exact hfind) (by rw [hw]; show 2 * 0 + (st.map fun v => v.category).sum + 3072 ≤ _; omega) r
  · exact absurd hcap hne
theorem go_lsw (W : On k Z n0 E T h cells slots) {dflt : Int} {prs : Array (Int × Int)} {len : Nat} {i : Int32} (hd : decode k.bytes pc = .ok (.lookupswitch dflt prs, len)) (hsrt : ∀ a b a_1 b_1 : Int, ((a, b), a_1, b_1) ∈ prs.toList.zip prs.toList.tail → a < a_1) (ho : 0 ≤ (pc : Int) + lookupswitch.offset prs.toList dflt i.toInt) (hp : ((pc : Int) + lookupswitch.offset prs.toList dflt i.toInt).toNat = pc') (g : Go E G (Fm E T pc' Ls st)) : Go E G (Fm E T pc Ls (.int i :: st)) := by
  subst hp
  refine g.step fun t r => ?_
  have q := W.here; have hx := W.exec; have hd' := hb W.bytes hd
  show Steps E.p.tables E.e E.below (T.setTop { method := E.m, pc := pc, locals := Ls, stack := .int i :: st, locked := none }) t
  jvm_step q [q.top, hx, hd', ho, lookupswitch.wp_chain]
  exact ⟨hsrt, r⟩
theorem Sta.kept {h' : Heap} {C n d : String} {v : Value} (S : Sta Z h C n d v) (K : Keep h h' []) : Sta Z h' C n d v := by
  obtain ⟨cf, i, k, f, st, cell, h1, h2, h3, h4, h5, r⟩ := S; exact ⟨cf, i, k, f, st, cell, h1, h2, h3, h4, K.2.1 _ _ h5 nin0, r⟩
theorem Arr.kept {h' : Heap} {a : Addr} {c : Cell} {ty : FieldType} (A : Arr Z h a c ty) (K : Keep h h' []) : Arr Z h' a c ty := ⟨K.2.1 _ _ A.1 nin0, A.2⟩
theorem Keep.ext0 {h' : Heap} {ws : List Addr} (K : Keep h h' ws) (q : ∀ x ∈ ws, h.size ≤ x) : Ext h h' := ⟨K.1, fun a c e => K.2.1 a c e fun y => absurd (Array.getElem?_eq_some_iff.mp e).1 (Nat.not_lt.mpr (q a y))⟩
theorem Keep.nil {h' : Heap} {ws : List Addr} (K : Keep h h' ws) (q : ∀ x ∈ ws, h.size ≤ x) : Keep h h' [] := ⟨K.1, fun a c e _ => (Keep.ext0 K q).2 a c e, K.2.2⟩
/-! an array by a function -/
def Af (Z : State) (h : Heap) (a : Addr) (ty : FieldType) (n : Nat) (f : Nat → Value) : Prop := ∃ c : Cell, Arr Z h a c ty ∧ c.slots.size = n ∧ ∀ i, i < n → c.slots[i]? = some (f i)
theorem Af.lt {a : Addr} {ty : FieldType} {n : Nat} {f : Nat → Value} (F : Af Z h a ty n f) : a < h.size := by obtain ⟨c, A, -⟩ := F; exact A.lt
theorem Af.ext {h' : Heap} {a : Addr} {ty : FieldType} {n : Nat} {f : Nat → Value} (F : Af Z h a ty n f) (X : Ext h h') : Af Z h' a ty n f := by obtain ⟨c, A, r⟩ := F; exact ⟨c, A.ext X, r⟩
theorem Af.other {h' : Heap} {a b : Addr} {sl : Nat} {v : Value} {ty : FieldType} {n : Nat} {f : Nat → Value} (F : Af Z h b ty n f) (W : Wr h h' a sl v) (q : b ≠ a) : Af Z h' b ty n f := by obtain ⟨c, A, r⟩ := F; exact ⟨c, A.other W q, r⟩
theorem Af.keep {h' : Heap} {a : Addr} {ws : List Addr} {ty : FieldType} {n : Nat} {f : Nat → Value} (F : Af Z h a ty n f) (K : Keep h h' ws) (q : a ∉ ws) : Af Z h' a ty n f := by obtain ⟨c, A, r⟩ := F; exact ⟨c, ⟨K.2.1 a c A.1 q, A.2⟩, r⟩
theorem Af.congr {a : Addr} {ty : FieldType} {n : Nat} {f f' : Nat → Value} (F : Af Z h a ty n f) (q : ∀ i, i < n → f i = f' i) : Af Z h a ty n f' := by obtain ⟨c, A, r1, r2⟩ := F; exact ⟨c, A, r1, fun i hi => by rw [r2 i hi, q i hi]⟩
theorem Af.new {a : Addr} {ty : FieldType} {cA : ClassId} {z : Int32} {n : Nat} (A : Arr Z h a (newA cA ty z) ty) (q : z.toNatClampNeg = n) : Af Z h a ty n (fun _ => defaultValue ty) := ⟨_, A, by rw [sz_new]; exact q, fun i hi => by subst q; simp [newA, hi]⟩
theorem Af.set {h' : Heap} {a : Addr} {v : Value} {ty : FieldType} {n : Nat} {f : Nat → Value} {i : Nat} (F : Af Z h a ty n f) (W : Wr h h' a i v) (hi : i < n) : Af Z h' a ty n (fun j => if j = i then v else f j) := by
  obtain ⟨c, A, r1, r2⟩ := F
  refine ⟨_, A.same W, by rw [sz_set]; exact r1, fun j hj => ?_⟩
  by_cases e : j = i
  · subst e; simp [Cell.setSlot, r1, hi]
  · show _ = some (if j = i then v else f j)
    rw [if_neg e, ← r2 j hj]; exact Array.getElem?_setIfInBounds_ne (Ne.symm e)
theorem Af.at {a : Addr} {ty : FieldType} {n : Nat} {f : Nat → Value} {j : Int32} {i : Nat} (F : Af Z h a ty n f) (hj : j.toInt = (i : Int)) (hi : i < n) : j.toNatClampNeg = i ∧ ∃ c : Cell, Arr Z h a c ty ∧ ¬ (j < 0 ∨ c.slots.size ≤ j.toNatClampNeg) ∧ c.slots[j.toNatClampNeg]? = some (f i) := by
  obtain ⟨c, A, r1, r2⟩ := F
  have e : j.toNatClampNeg = i := by simp only [Int32.toNatClampNeg]; omega
  refine ⟨e, c, A, ?_, by rw [e]; exact r2 i hi⟩
  rw [e, r1, Int32.lt_iff_toInt_lt, hj]
  simp only [Int32.reduceToInt]; omega
theorem Af.len {a : Addr} {ty : FieldType} {n : Nat} {f : Nat → Value} (F : Af Z h a ty n f) : ∃ c : Cell, Arr Z h a c ty ∧ c.slots.size = n := by obtain ⟨c, A, r1, -⟩ := F; exact ⟨c, A, r1⟩
theorem Af.fitC {a : Addr} {ty : FieldType} {n : Nat} {f : Nat → Value} (F : Af Z h a ty n f) (q : ∀ i, i < n → fits ty (f i) = true) : ∃ c : Cell, Arr Z h a c ty ∧ c.slots.size = n ∧ FitC Z c ∧ ∀ i, i < n → c.slots[i]? = some (f i) := by
  obtain ⟨c, A, r1, r2⟩ := F
  refine ⟨c, A, r1, fitC_of A fun i hi v hv => ?_, r2⟩
  rw [r1] at hi
  rw [r2 i hi] at hv
  cases hv; exact q i hi
theorem go_cloneF (W : On k Z n0 E T h cells slots) {ad : String} {index : Nat} (w1 : (Cond.methodLink k.y.cls index ⟨ad, "clone", "()Ljava/lang/Object;"⟩).before a0 Z = true) (w2 : (Cond.sameMethod ad "java/lang/Object" "clone" "()Ljava/lang/Object;").before a0 Z = true) (w3 : (Cond.native ⟨"java/lang/Object", "clone", "()Ljava/lang/Object;"⟩).before a0 Z = true)
    (w4 : (Cond.instanceMethod ⟨"java/lang/Object", "clone", "()Ljava/lang/Object;"⟩).before a0 Z = true) (w5 : (Cond.selects ad ⟨ad, "clone", "()Ljava/lang/Object;"⟩ ⟨"java/lang/Object", "clone", "()Ljava/lang/Object;"⟩).before a0 Z = true) (w6 : (Cond.castable ad "java/lang/Cloneable").before a0 Z = true)
    {a : Addr} {ty : FieldType} {n : Nat} {f : Nat → Value} (F : Af Z h a ty n f) (hfit : ∀ i, i < n → fits ty (f i) = true) (Ex : Exa Z h a ad) (hd : decode k.bytes pc = .ok (.invokevirtual index, 3)) (hm : Ls.size = k.maxL) (hf : 1 ≤ k.rm.frames) (hl : (st.map fun v => v.category).sum + 14 ≤ k.rm.locals) (hc : cells + 1 ≤ k.rm.cells) (hsl : slots + n ≤ k.rm.slots) (hp : pc + 3 = pc')
    (g : ∀ T' h' b, b = h.size → On k Z n0 E T' h' (cells + 1) (slots + n) → Ext h h' → Af Z h' b ty n f → Exa Z h' b ad → Go E G (Fm E T' pc' Ls (.ref b :: st))) : Go E G (Fm E T pc Ls (.ref a :: st)) := by
  obtain ⟨c, A, r1, FC, r2⟩ := F.fitC hfit
  exact go_cloneA W w1 w2 w3 w4 w5 w6 A Ex FC hd hm hf hl n (Nat.le_of_eq r1) hc hsl hp fun T' h' b e W' E' A' Q' => g T' h' b e W' E' ⟨_, A', r1, r2⟩ Q'
theorem go_lenF (W : On k Z n0 E T h cells slots) {a : Addr} {ty : FieldType} {n : Nat} {f : Nat → Value} {z : Int32} (F : Af Z h a ty n f) (hz : n.toInt32 = z) (hd : decode k.bytes pc = .ok (.arraylength, 1)) (hp : pc + 1 = pc') (g : Go E G (Fm E T pc' Ls (.int z :: st))) : Go E G (Fm E T pc Ls (.ref a :: st)) := by
  obtain ⟨c, A, r⟩ := F.len
  exact go_arraylength W A (by rw [r]; exact hz) hd hp g
theorem go_stIF (W : On k Z n0 E T h cells slots) {a : Addr} {n : Nat} {f : Nat → Value} {j : Int32} {i : Nat} {x : Int32} (F : Af Z h a .int n f) (hj : j.toInt = (i : Int)) (hi : i < n) (hn0 : n0 ≤ a) (hd : decode k.bytes pc = .ok (.iastore, 1)) (hp : pc + 1 = pc') (g : ∀ T' h', On k Z n0 E T' h' cells slots → Wr h h' a i (.int x) → Af Z h' a .int n (fun j => if j = i then (.int x) else f j) → Go E G (Fm E T' pc' Ls st)) : Go E G (Fm E T pc Ls (.int x :: .int j :: .ref a :: st)) := by
  obtain ⟨e, c, A, q, -⟩ := F.at hj hi
  exact go_stI W A q hn0 hd hp fun T' h' W' R => g T' h' W' (e ▸ R) (F.set (e ▸ R) hi)
theorem go_stJF (W : On k Z n0 E T h cells slots) {a : Addr} {n : Nat} {f : Nat → Value} {j : Int32} {i : Nat} {x : Int64} (F : Af Z h a .long n f) (hj : j.toInt = (i : Int)) (hi : i < n) (hn0 : n0 ≤ a) (hd : decode k.bytes pc = .ok (.lastore, 1)) (hp : pc + 1 = pc') (g : ∀ T' h', On k Z n0 E T' h' cells slots → Wr h h' a i (.long x) → Af Z h' a .long n (fun j => if j = i then (.long x) else f j) → Go E G (Fm E T' pc' Ls st)) : Go E G (Fm E T pc Ls (.long x :: .int j :: .ref a :: st)) := by
  obtain ⟨e, c, A, q, -⟩ := F.at hj hi
  exact go_stJ W A q hn0 hd hp fun T' h' W' R => g T' h' W' (e ▸ R) (F.set (e ▸ R) hi)
theorem go_stCF (W : On k Z n0 E T h cells slots) {a : Addr} {n : Nat} {f : Nat → Value} {j : Int32} {i : Nat} {x : Int32} (F : Af Z h a .char n f) (hj : j.toInt = (i : Int)) (hi : i < n) (hn0 : n0 ≤ a) (hd : decode k.bytes pc = .ok (.castore, 1)) (hp : pc + 1 = pc') (g : ∀ T' h', On k Z n0 E T' h' cells slots → Wr h h' a i (.int (nar .char x)) → Af Z h' a .char n (fun j => if j = i then (.int (nar .char x)) else f j) → Go E G (Fm E T' pc' Ls st)) : Go E G (Fm E T pc Ls (.int x :: .int j :: .ref a :: st)) := by
  obtain ⟨e, c, A, q, -⟩ := F.at hj hi
  exact go_stC W A q hn0 hd hp fun T' h' W' R => g T' h' W' (e ▸ R) (F.set (e ▸ R) hi)
theorem go_stBF (W : On k Z n0 E T h cells slots) {a : Addr} {n : Nat} {f : Nat → Value} {j : Int32} {i : Nat} {x : Int32} (F : Af Z h a .byte n f) (hj : j.toInt = (i : Int)) (hi : i < n) (hn0 : n0 ≤ a) (hd : decode k.bytes pc = .ok (.bastore, 1)) (hp : pc + 1 = pc') (g : ∀ T' h', On k Z n0 E T' h' cells slots → Wr h h' a i (.int (nar .byte x)) → Af Z h' a .byte n (fun j => if j = i then (.int (nar .byte x)) else f j) → Go E G (Fm E T' pc' Ls st)) : Go E G (Fm E T pc Ls (.int x :: .int j :: .ref a :: st)) := by
  obtain ⟨e, c, A, q, -⟩ := F.at hj hi
  exact go_stB W A q hn0 hd hp fun T' h' W' R => g T' h' W' (e ▸ R) (F.set (e ▸ R) hi)
theorem go_stZF (W : On k Z n0 E T h cells slots) {a : Addr} {n : Nat} {f : Nat → Value} {j : Int32} {i : Nat} {x : Int32} (F : Af Z h a .boolean n f) (hj : j.toInt = (i : Int)) (hi : i < n) (hn0 : n0 ≤ a) (hd : decode k.bytes pc = .ok (.bastore, 1)) (hp : pc + 1 = pc') (g : ∀ T' h', On k Z n0 E T' h' cells slots → Wr h h' a i (.int (nar .boolean x)) → Af Z h' a .boolean n (fun j => if j = i then (.int (nar .boolean x)) else f j) → Go E G (Fm E T' pc' Ls st)) : Go E G (Fm E T pc Ls (.int x :: .int j :: .ref a :: st)) := by
  obtain ⟨e, c, A, q, -⟩ := F.at hj hi
  exact go_stZ W A q hn0 hd hp fun T' h' W' R => g T' h' W' (e ▸ R) (F.set (e ▸ R) hi)
theorem go_ialoadF (W : On k Z n0 E T h cells slots) {a : Addr} {n : Nat} {f : Nat → Value} {j : Int32} {i : Nat} {v : Value} (F : Af Z h a .int n f) (hj : j.toInt = (i : Int)) (hi : i < n) (hv : f i = v) (hd : decode k.bytes pc = .ok (.iaload, 1)) (hp : pc + 1 = pc') (g : Go E G (Fm E T pc' Ls (v :: st))) : Go E G (Fm E T pc Ls (.int j :: .ref a :: st)) := by
  obtain ⟨e, c, A, q, r⟩ := F.at hj hi
  exact go_iaload W A q (hv ▸ r) hd hp g
theorem go_laloadF (W : On k Z n0 E T h cells slots) {a : Addr} {n : Nat} {f : Nat → Value} {j : Int32} {i : Nat} {v : Value} (F : Af Z h a .long n f) (hj : j.toInt = (i : Int)) (hi : i < n) (hv : f i = v) (hd : decode k.bytes pc = .ok (.laload, 1)) (hp : pc + 1 = pc') (g : Go E G (Fm E T pc' Ls (v :: st))) : Go E G (Fm E T pc Ls (.int j :: .ref a :: st)) := by
  obtain ⟨e, c, A, q, r⟩ := F.at hj hi
  exact go_laload W A q (hv ▸ r) hd hp g
theorem go_caloadF (W : On k Z n0 E T h cells slots) {a : Addr} {n : Nat} {f : Nat → Value} {j : Int32} {i : Nat} {v : Value} (F : Af Z h a .char n f) (hj : j.toInt = (i : Int)) (hi : i < n) (hv : f i = v) (hd : decode k.bytes pc = .ok (.caload, 1)) (hp : pc + 1 = pc') (g : Go E G (Fm E T pc' Ls (v :: st))) : Go E G (Fm E T pc Ls (.int j :: .ref a :: st)) := by
  obtain ⟨e, c, A, q, r⟩ := F.at hj hi
  exact go_caload W A q (hv ▸ r) hd hp g
theorem go_baloadF (W : On k Z n0 E T h cells slots) {a : Addr} {n : Nat} {f : Nat → Value} {j : Int32} {i : Nat} {v : Value} (F : Af Z h a .byte n f) (hj : j.toInt = (i : Int)) (hi : i < n) (hv : f i = v) (hd : decode k.bytes pc = .ok (.baload, 1)) (hp : pc + 1 = pc') (g : Go E G (Fm E T pc' Ls (v :: st))) : Go E G (Fm E T pc Ls (.int j :: .ref a :: st)) := by
  obtain ⟨e, c, A, q, r⟩ := F.at hj hi
  exact go_baload W A q (hv ▸ r) hd hp g
theorem go_callU (W : On k Z n0 E T h cells slots) {kc : Mt} {y : MethodName} {K owner : String} {index : Nat} {a : Addr} {argsL rest : List Value} {ps : List FieldType} {r : Option FieldType} {Q : Option Value → Heap → Prop} (w1 : (Cond.methodLink k.y.cls index y).before a0 Z = true) (w2 : (Cond.sameMethod y.cls owner y.name y.desc).before a0 Z = true) (w2' : (Cond.declares ⟨owner, y.name, y.desc⟩).before a0 Z = true) (w3 : (Cond.selects K y kc.y).before a0 Z = true) (w4 : (Cond.instanceMethod kc.y).before a0 Z = true) (w5 : (Cond.initialized kc.y.cls).before a0 Z = true) (w6 : (Cond.code kc.y kc.bytes kc.maxL kc.ret).before a0 Z = true)
    (Ex : Exa Z h a K) (c : Ct E.l Z kc (.ref a :: argsL).toArray h n0 Q) (hy : owner ≠ "java/lang/invoke/MethodHandle" ∧ owner ≠ "java/lang/invoke/VarHandle") (hdesc : parseMethodDescriptor y.desc = some ⟨ps, r⟩) (hlen : argsL.length = ps.length) (hst : st = argsL.reverse ++ .ref a :: rest) (hm : Ls.size = k.maxL)
    (hf : kc.rm.frames + 1 ≤ k.rm.frames) (hl : (rest.map fun v => v.category).sum + (kc.maxL + 11) + kc.rm.locals ≤ k.rm.locals) (hcl : cells + kc.rm.cells ≤ k.rm.cells) (hsl : slots + kc.rm.slots ≤ k.rm.slots) (hd : decode k.bytes pc = .ok (.invokevirtual index, 3)) (hp : pc + 3 = pc')
    (g : ∀ v T' h', Q v h' → On k Z n0 E T' h' (cells + kc.rm.cells) (slots + kc.rm.slots) → Go E G (Fm E T' pc' Ls (v.toList ++ rest))) : Go E G (Fm E T pc Ls st) := by
  obtain ⟨C, hh, L, a1, b1, ha, hb1, hF, X⟩ := W
  subst hp
  have hZ := C.2.2.2.2.2.2.1
  obtain ⟨cq, kq, qa, qb, qc⟩ := isOf (T := T) hZ hh Ex
  obtain ⟨v, _, ⟨T', L', k', n'⟩, -, X', ⟨Lc, hQ, l', y', z'⟩, st'⟩ := X.virtualBackUp C.1 (x := y) (y := kc.y) C.2.2.2.1 (mvT hZ w1) (mvT hZ w2) (mvT hZ w2') hy (mvT hZ w3) (mvT hZ w4) (c.back (k := k) (W := (rest.map fun v => v.category).sum) hZ w6 w5 hf hl) qa qc (g := mkF E.m pc Ls st) rfl (hm.trans C.2.2.1.symm) (Steps.refl _) (argsL := argsL) (rest := rest) (lenOf hdesc hlen) hst (by show 2 * 0 + _ ≤ _; omega) (hb C.2.1 hd) (fun _ _ => ⟨rfl, hh, Nat.le_trans (Nat.add_le_add_right ha _) hcl, Nat.le_trans (Nat.add_le_add_right hb1 _) hsl⟩)
  dsimp only [Pt.U, Pt.locs, Pt.cells, Pt.slots] at X' l' y' z' st' hQ
  subst l' y' z'
  exact (g v T' _ hQ.1 ⟨C, rfl, _, _, _, Nat.add_le_add_right ha _, Nat.add_le_add_right hb1 _, Fr.app hF hQ.2, X'⟩).step fun t q => st'.trans q
theorem go_callP (W : On k Z n0 E T h cells slots) {kc : Mt} {index : Nat} {a : Addr} {K : String} {argsL rest : List Value} {ps : List FieldType} {r : Option FieldType} {Q : Option Value → Heap → Prop} (w1 : (Cond.methodLink k.y.cls index kc.y).before a0 Z = true) (w2 : (Cond.instanceMethod kc.y).before a0 Z = true) (w3 : (Cond.selects kc.y.cls kc.y kc.y).before a0 Z = true) (w4 : (Cond.privateMethod kc.y).before a0 Z = true) (w5 : (Cond.initialized kc.y.cls).before a0 Z = true) (w6 : (Cond.code kc.y kc.bytes kc.maxL kc.ret).before a0 Z = true)
    (Ex : Exa Z h a K) (c : Ct E.l Z kc (.ref a :: argsL).toArray h n0 Q) (hy : kc.y.cls ≠ "java/lang/invoke/MethodHandle" ∧ kc.y.cls ≠ "java/lang/invoke/VarHandle") (hdesc : parseMethodDescriptor kc.y.desc = some ⟨ps, r⟩) (hlen : argsL.length = ps.length) (hst : st = argsL.reverse ++ .ref a :: rest) (hm : Ls.size = k.maxL)
    (hf : kc.rm.frames + 1 ≤ k.rm.frames) (hl : (rest.map fun v => v.category).sum + (kc.maxL + 11) + kc.rm.locals ≤ k.rm.locals) (hcl : cells + kc.rm.cells ≤ k.rm.cells) (hsl : slots + kc.rm.slots ≤ k.rm.slots) (hd : decode k.bytes pc = .ok (.invokevirtual index, 3)) (hp : pc + 3 = pc')
    (g : ∀ v T' h', Q v h' → On k Z n0 E T' h' (cells + kc.rm.cells) (slots + kc.rm.slots) → Go E G (Fm E T' pc' Ls (v.toList ++ rest))) : Go E G (Fm E T pc Ls st) := by
  obtain ⟨C, hh, L, a1, b1, ha, hb1, hF, X⟩ := W
  subst hp
  have hZ := C.2.2.2.2.2.2.1
  obtain ⟨cq, q1, q2⟩ := Ex.cell
  obtain ⟨v, _, ⟨T', L', k', n'⟩, -, X', ⟨Lc, hQ, l', y', z'⟩, st'⟩ := X.privateBack C.1 (y := kc.y) C.2.2.2.1 (mvT hZ w1) (mvT hZ w2) (mvT hZ w3) (Cond.privateMethod_at (mvP hZ w4 (args := #[]))) (mvT hZ w6) hy (c.back (k := k) (W := (rest.map fun v => v.category).sum) hZ w6 w5 hf hl) (g := mkF E.m pc Ls st) rfl (hm.trans C.2.2.1.symm) (Steps.refl _) (a := a) (by rw [hh]; exact q1) q2 (argsL := argsL) (rest := rest) (lenOf hdesc hlen) hst (by show 2 * 0 + _ ≤ _; omega) (hb C.2.1 hd) (fun _ _ => ⟨rfl, hh, Nat.le_trans (Nat.add_le_add_right ha _) hcl, Nat.le_trans (Nat.add_le_add_right hb1 _) hsl⟩)
  dsimp only [Pt.U, Pt.locs, Pt.cells, Pt.slots] at X' l' y' z' st' hQ
  subst l' y' z'
  exact (g v T' _ hQ.1 ⟨C, rfl, _, _, _, Nat.add_le_add_right ha _, Nat.add_le_add_right hb1 _, Fr.app hF hQ.2, X'⟩).step fun t q => st'.trans q
theorem go_callF (W : On k Z n0 E T h cells slots) {kc : Mt} {y : MethodName} {K : String} {index count : Nat} {a : Addr} {argsL rest : List Value} {ps : List FieldType} {r : Option FieldType} {Q : Option Value → Heap → Prop} (w1 : (Cond.methodLink k.y.cls index y).before a0 Z = true) (w2 : (Cond.declares y).before a0 Z = true) (w2' : (Cond.interfaceMethod y.cls y.cls y.name y.desc).before a0 Z = true) (w3 : (Cond.selects K y kc.y).before a0 Z = true) (w4 : (Cond.instanceMethod kc.y).before a0 Z = true) (w4' : (Cond.publicMethod kc.y).before a0 Z = true) (w4'' : (Cond.unhidden K y.name y.desc).before a0 Z = true) (wk : (Cond.castable K y.cls).before a0 Z = true) (w5 : (Cond.initialized kc.y.cls).before a0 Z = true) (w6 : (Cond.code kc.y kc.bytes kc.maxL kc.ret).before a0 Z = true)
    (Ex : Exa Z h a K) (c : Ct E.l Z kc (.ref a :: argsL).toArray h n0 Q) (hy : y.cls ≠ "java/lang/invoke/MethodHandle" ∧ y.cls ≠ "java/lang/invoke/VarHandle") (hdesc : parseMethodDescriptor y.desc = some ⟨ps, r⟩) (hlen : argsL.length = ps.length) (hst : st = argsL.reverse ++ .ref a :: rest) (hm : Ls.size = k.maxL)
    (hf : kc.rm.frames + 1 ≤ k.rm.frames) (hl : (rest.map fun v => v.category).sum + (kc.maxL + 11) + kc.rm.locals ≤ k.rm.locals) (hcl : cells + kc.rm.cells ≤ k.rm.cells) (hsl : slots + kc.rm.slots ≤ k.rm.slots) (hd : decode k.bytes pc = .ok (.invokeinterface index count, 5)) (hp : pc + 5 = pc')
    (g : ∀ v T' h', Q v h' → On k Z n0 E T' h' (cells + kc.rm.cells) (slots + kc.rm.slots) → Go E G (Fm E T' pc' Ls (v.toList ++ rest))) : Go E G (Fm E T pc Ls st) := by
  obtain ⟨C, hh, L, a1, b1, ha, hb1, hF, X⟩ := W
  subst hp
  have hZ := C.2.2.2.2.2.2.1
  obtain ⟨cq, kq, qa, qb, qc⟩ := isOf (T := T) hZ hh Ex
  obtain ⟨v, _, ⟨T', L', k', n'⟩, -, X', ⟨Lc, hQ, l', y', z'⟩, st'⟩ := X.interfaceBack C.1 (xi := y) (y := kc.y) C.2.2.2.1 (mvT hZ w1) (mvT hZ w2) (mvT hZ w2' (by simp [Cond.onTables, Cond.keepsFace, Cond.keeps, Cond.steady, Cond.faceAtom, hy.1, hy.2])) (mvT hZ w3) (mvT hZ w4) (mvT hZ w4') (mvT hZ w4'') (mvT hZ wk) hy (c.back (k := k) (W := (rest.map fun v => v.category).sum) hZ w6 w5 hf hl) qa qb qc (g := mkF E.m pc Ls st) rfl (hm.trans C.2.2.1.symm) (Steps.refl _) (argsL := argsL) (rest := rest) (lenOf hdesc hlen) hst (by show 2 * 0 + _ ≤ _; omega) (hb C.2.1 hd) (fun _ _ => ⟨rfl, hh, Nat.le_trans (Nat.add_le_add_right ha _) hcl, Nat.le_trans (Nat.add_le_add_right hb1 _) hsl⟩)
  dsimp only [Pt.U, Pt.locs, Pt.cells, Pt.slots] at X' l' y' z' st' hQ
  subst l' y' z'
  exact (g v T' _ hQ.1 ⟨C, rfl, _, _, _, Nat.add_le_add_right ha _, Nat.add_le_add_right hb1 _, Fr.app hF hQ.2, X'⟩).step fun t q => st'.trans q
end
end Jvm.GoKit
namespace Jvm.GoKit
open Sem ClassFile Op Lib Jvm.Stand Jvm.Free Jvm.LawKit Jvm.RoadKit
section
variable {k : Mt} {Z : State} {n0 : Nat} {E : Cx} {T : State} {h : Heap} {cells slots : Nat} {G : State → Outcome → Prop} {a0 : Array Value} {pc pc' : Nat} {Ls : Array Slot} {st : List Value} {s0 : State}
/-- the walk's start is the true start s0 but for tables that may have interned since -/
def Reb (s0 : State) (E : Cx) (h : Heap) : Prop := ∃ (vm0 : Vm) (k0 : Nat), E.s = s0.setVm vm0 ∧ s0.Since vm0 k0 ∧ k0 ≤ h.size
theorem Reb.le {h' : Heap} (R : Reb s0 E h) (q : h.size ≤ h'.size) : Reb s0 E h' := by obtain ⟨v, k0, e, hS, hk⟩ := R; exact ⟨v, k0, e, hS, Nat.le_trans hk q⟩
theorem go_ldcS (W : On k Z n0 E T h cells slots) (R : Reb s0 E h) {index : Nat} {text : String} (w : (Cond.stringLink k.y.cls index text).before a0 Z = true) (wS : ∀ a ∈ Bundle.stringAtoms, a.before a0 Z = true) (hd : decode k.bytes pc = .ok (.ldc index, 2)) (n : Nat) (hn : 4 * text.toList.length ≤ n) (hbig : n ≤ 536870912) (hc : cells + 2 ≤ k.rm.cells) (hl : slots + (n + 4) ≤ k.rm.slots) (hp : pc + 2 = pc')
    (g : ∀ (E' : Cx) (T' : State) (h' : Heap) (a : Addr), On k Z n0 E' T' h' (cells + 2) (slots + (n + 4)) → Reb s0 E' h' → Ext h h' → Go E' G (Fm E' T' pc' Ls (.ref a :: st))) : Go E G (Fm E T pc Ls st) := by
  obtain ⟨p, l, e, s, m, args, below, meth, c⟩ := E
  obtain ⟨⟨c1, c2, c3, c4, c5, c6, c7, c8, c9⟩, hh, L, a1, b1, ha, hb1, hF, X⟩ := W
  obtain ⟨vm0, k0, es, hS, hk⟩ := R
  dsimp only [Cx.p, Cx.l, Cx.e, Cx.s, Cx.m, Cx.args, Cx.below, Cx.meth, Cx.c] at *
  subst hp
  subst es
  obtain ⟨a, T', h', k1, X', e', E', hS', hk', hZ', hown', st'⟩ := ldcS X c1 c7 c4 w wS hh hS hk (g := mkF m pc Ls st) rfl (hb c2 hd) hn hbig (Nat.le_trans (Nat.add_le_add_right ha 2) hc) (Nat.le_trans (Nat.add_le_add_right hb1 (n + 4)) hl)
  have hnm' : (s0.setVm T'.vm).methodNamed? k.y = some m := by
    have q := State.methodNamed?_setVm (s := s0.setVm vm0) (vm' := T'.vm) (c7.alike.symm.trans hZ'.alike) k.y
    exact (show ((s0.setVm vm0).setVm T'.vm).methodNamed? k.y = some m from q.trans c9)
  have q := g (p, l, e, s0.setVm T'.vm, m, args, below, meth, c) T' h' a ⟨⟨c1, c2, c3, hown', c5, c6, hZ', c8, hnm'⟩, e', L, _, _, Nat.add_le_add_right ha 2, Nat.add_le_add_right hb1 (n + 4), hF, X'⟩ ⟨T'.vm, k1, rfl, hS', hk'⟩ E'
  exact Go.step (E := (p, l, e, s0.setVm vm0, m, args, below, meth, c)) q st'
def EndW (s : State) (n0 : Nat) (Q : Option Value → Heap → Prop) (C N : Nat) : State → Outcome → Prop := fun t o => ∃ v L, o = .returned v ∧ (Q v t.heap ∧ Fr n0 L) ∧ ReturnedEndW s o t L C N
def CtW (l : Launch) (Z : State) (k : Mt) (as' : Array Value) (h0 : Heap) (n0 : Nat) (Q : Option Value → Heap → Prop) : Prop :=
  ∀ ws, MetFree l k.y (head1 (Cond.code k.y k.bytes k.maxL k.ret :: ws) k.rm) (fun a U => a = as' ∧ Z.Warmed39 U.vm ∧ U.heap = h0) (fun _ _ _ _ _ => True) (fun _ U o U' => ∃ v L, o = .returned v ∧ (Q v U'.heap ∧ Fr n0 L) ∧ ReturnedEndW U o U' L k.rm.cells k.rm.slots)
theorem CtW.of {l : Launch} {as' : Array Value} {h0 : Heap} {Q : Option Value → Heap → Prop} (hpl : plainFor k.y = true) (ef : ∀ m, entryFrame m as' k.maxL = mkF m 0 Ls []) (body : ∀ (s0 : State) (E : Cx) (T : State), Reb s0 E h0 → On k Z n0 E T h0 0 0 → Go E (EndW s0 n0 Q k.rm.cells k.rm.slots) (Fm E T 0 Ls [])) : CtW l Z k as' h0 n0 Q := fun ws => by
  refine MetFree.of_bodySF hpl hisR ?_
  intro p e s m args below meth c s₁ Bd hml0 hP hK
  obtain ⟨rfl, hZ, hh⟩ := hP
  have X0 : Stand p l e k.rm s m args below meth c s₁ [] 0 0 := Stand.of_body Bd
  obtain ⟨s₂, o, h1, h2, h3, h4⟩ := body s (p, l, e, s, m, args, below, meth, c) s₁ ⟨s.vm, 0, rfl, (State.WarmedH.refl s).since 0, Nat.zero_le _⟩ ⟨⟨Bd.exec, Bd.bytes, hml0, findClass_of_methodNamed Bd.named, Bd.returns, Bd.notSynchronized, hZ, (name_of_methodNamed Bd.named Bd.method).1, Bd.named⟩, by rw [← hh, Bd.state]; rfl, [], 0, 0, Nat.le_refl _, Nat.le_refl _, Fr.nil n0, X0⟩
  exact ⟨s₂, o, castTop (ef m) h1, h2, h3, h4⟩
theorem go_retIW (W : On k Z n0 E T h cells slots) (R : Reb s0 E h) {Q : Option Value → Heap → Prop} {C N : Nat} {w : Int32} {t : FieldType} (hret : k.ret = some t) (ht : t = .int ∨ t = .boolean ∨ t = .byte ∨ t = .char ∨ t = .short) (hn : narrow t (.int w) = .int w) (hd : decode k.bytes pc = .ok (.ireturn, 1)) (hC : cells ≤ C) (hN : slots ≤ N) (hq : Q (some (.int w)) h) : Go E (EndW s0 n0 Q C N) (Fm E T pc Ls (.int w :: st)) := by
  obtain ⟨p, l, e, s, m, args, below, meth, c⟩ := E
  obtain ⟨⟨c1, c2, c3, c4, c5, c6, c7, c8, c9⟩, hh, L, a1, b1, ha, hb1, hF, X⟩ := W
  obtain ⟨vm0, k0, es, hS, hk⟩ := R
  dsimp only [Cx.p, Cx.l, Cx.e, Cx.s, Cx.m, Cx.args, Cx.below, Cx.meth, Cx.c] at *
  subst es
  have hr : meth.sig.returnType = some t := c5.trans hret
  obtain ⟨fs, hr', hrun, hended, hEnd⟩ := X.leaveW hS (by rw [hh]; exact hk) (v := some (.int w)) (fun h => by rw [hr] at h; cases h) c6
  obtain ⟨w1, w2, w3, w4⟩ := hEnd
  exact ⟨_, _, retOut X c1 hr hn (Or.inl ⟨rfl, ht, _, rfl⟩) (hb c2 hd) hr', hrun, hended, some (.int w), L, rfl, ⟨by show Q (some (.int w)) T.heap; rw [hh]; exact hq, hF⟩, w1, w2, w3, w4.mono (Nat.le_trans ha hC) (Nat.le_trans hb1 hN)⟩
end
end Jvm.GoKit
namespace Jvm.Pilot.@@N@@
open Jvm Jvm.ClassFile Sem Op Lib Jvm.Free Jvm.Stand Jvm.LawKit Jvm.RoadKit Bundle Jvm.GoKit Jvm.Pilot.@@N@@.Jvm.D
abbrev Hw (a0 : Array Value) (Z : State) : Prop := ∀ d ∈ tables_1, d.before a0 Z = true
theorem w0 {a0 : Array Value} {Z : State} (hw : Hw a0 Z) : (Jvm.Cond.classLink "com/example/hushmediator/hushmediator/problem/ConstraintOtherPinLaw" (7 : Nat) "com/example/hushmediator/hushmediator/problem/Problem$Constraint").before a0 Z = true := hw _ (List.mem_of_getElem? (i := 0) rfl)
theorem w1 {a0 : Array Value} {Z : State} (hw : Hw a0 Z) : (Jvm.Cond.instantiable "com/example/hushmediator/hushmediator/problem/Problem$Constraint" (5 : Nat)).before a0 Z = true := hw _ (List.mem_of_getElem? (i := 1) rfl)
theorem w2 {a0 : Array Value} {Z : State} (hw : Hw a0 Z) : (Jvm.Cond.initialized "com/example/hushmediator/hushmediator/problem/Problem$Constraint").before a0 Z = true := hw _ (List.mem_of_getElem? (i := 2) rfl)
theorem w3 {a0 : Array Value} {Z : State} (hw : Hw a0 Z) : (Jvm.Cond.stringLink "com/example/hushmediator/hushmediator/problem/ConstraintOtherPinLaw" (9 : Nat) "c").before a0 Z = true := hw _ (List.mem_of_getElem? (i := 3) rfl)
theorem w4 {a0 : Array Value} {Z : State} (hw : Hw a0 Z) : (Jvm.Cond.initialized "java/lang/String").before a0 Z = true := hw _ (List.mem_of_getElem? (i := 4) rfl)
theorem w5 {a0 : Array Value} {Z : State} (hw : Hw a0 Z) : (Jvm.Cond.instantiable "java/lang/String" (4 : Nat)).before a0 Z = true := hw _ (List.mem_of_getElem? (i := 5) rfl)
theorem w6 {a0 : Array Value} {Z : State} (hw : Hw a0 Z) : (Jvm.Cond.arrayClass Jvm.ClassFile.FieldType.byte).before a0 Z = true := hw _ (List.mem_of_getElem? (i := 6) rfl)
theorem w7 {a0 : Array Value} {Z : State} (hw : Hw a0 Z) : (Jvm.Cond.laysFinal "java/lang/String" "java/lang/String" "value" "[B").before a0 Z = true := hw _ (List.mem_of_getElem? (i := 7) rfl)
theorem w8 {a0 : Array Value} {Z : State} (hw : Hw a0 Z) : (Jvm.Cond.laysFinal "java/lang/String" "java/lang/String" "coder" "B").before a0 Z = true := hw _ (List.mem_of_getElem? (i := 8) rfl)
theorem w9 {a0 : Array Value} {Z : State} (hw : Hw a0 Z) : (Jvm.Cond.soleField "java/lang/String" "value").before a0 Z = true := hw _ (List.mem_of_getElem? (i := 9) rfl)
theorem w10 {a0 : Array Value} {Z : State} (hw : Hw a0 Z) : (Jvm.Cond.soleField "java/lang/String" "coder").before a0 Z = true := hw _ (List.mem_of_getElem? (i := 10) rfl)
theorem w11 {a0 : Array Value} {Z : State} (hw : Hw a0 Z) : (Jvm.Cond.arrayClass Jvm.ClassFile.FieldType.long).before a0 Z = true := hw _ (List.mem_of_getElem? (i := 11) rfl)
theorem w12 {a0 : Array Value} {Z : State} (hw : Hw a0 Z) : (Jvm.Cond.methodLink "com/example/hushmediator/hushmediator/problem/ConstraintOtherPinLaw" (11 : Nat) ({ cls := "com/example/hushmediator/hushmediator/problem/Problem$Constraint", name := "<init>", desc := "(Ljava/lang/String;III[J)V" } : Jvm.MethodName)).before a0 Z = true := hw _ (List.mem_of_getElem? (i := 12) rfl)
theorem w13 {a0 : Array Value} {Z : State} (hw : Hw a0 Z) : (Jvm.Cond.instanceMethod ({ cls := "com/example/hushmediator/hushmediator/problem/Problem$Constraint", name := "<init>", desc := "(Ljava/lang/String;III[J)V" } : Jvm.MethodName)).before a0 Z = true := hw _ (List.mem_of_getElem? (i := 13) rfl)
theorem w14 {a0 : Array Value} {Z : State} (hw : Hw a0 Z) : (Jvm.Cond.code ({ cls := "com/example/hushmediator/hushmediator/problem/Problem$Constraint", name := "<init>", desc := "(Ljava/lang/String;III[J)V" } : Jvm.MethodName) prog_20_method_1_code (6 : Nat) (Option.none : Option Jvm.ClassFile.FieldType)).before a0 Z = true := hw _ (List.mem_of_getElem? (i := 14) rfl)
theorem w15 {a0 : Array Value} {Z : State} (hw : Hw a0 Z) : (Jvm.Cond.methodLink "com/example/hushmediator/hushmediator/problem/Problem$Constraint" (1 : Nat) ({ cls := "java/lang/Object", name := "<init>", desc := "()V" } : Jvm.MethodName)).before a0 Z = true := hw _ (List.mem_of_getElem? (i := 15) rfl)
theorem w16 {a0 : Array Value} {Z : State} (hw : Hw a0 Z) : (Jvm.Cond.instanceMethod ({ cls := "java/lang/Object", name := "<init>", desc := "()V" } : Jvm.MethodName)).before a0 Z = true := hw _ (List.mem_of_getElem? (i := 16) rfl)
theorem w17 {a0 : Array Value} {Z : State} (hw : Hw a0 Z) : (Jvm.Cond.code ({ cls := "java/lang/Object", name := "<init>", desc := "()V" } : Jvm.MethodName) object_method_1_code (1 : Nat) (Option.none : Option Jvm.ClassFile.FieldType)).before a0 Z = true := hw _ (List.mem_of_getElem? (i := 17) rfl)
theorem w18 {a0 : Array Value} {Z : State} (hw : Hw a0 Z) : (Jvm.Cond.fieldLink "com/example/hushmediator/hushmediator/problem/Problem$Constraint" (7 : Nat) "com/example/hushmediator/hushmediator/problem/Problem$Constraint" "name" "Ljava/lang/String;").before a0 Z = true := hw _ (List.mem_of_getElem? (i := 18) rfl)
theorem w19 {a0 : Array Value} {Z : State} (hw : Hw a0 Z) : (Jvm.Cond.laysFinal "com/example/hushmediator/hushmediator/problem/Problem$Constraint" "com/example/hushmediator/hushmediator/problem/Problem$Constraint" "name" "Ljava/lang/String;").before a0 Z = true := hw _ (List.mem_of_getElem? (i := 19) rfl)
theorem w20 {a0 : Array Value} {Z : State} (hw : Hw a0 Z) : (Jvm.Cond.fieldLink "com/example/hushmediator/hushmediator/problem/Problem$Constraint" (13 : Nat) "com/example/hushmediator/hushmediator/problem/Problem$Constraint" "first" "I").before a0 Z = true := hw _ (List.mem_of_getElem? (i := 20) rfl)
theorem w21 {a0 : Array Value} {Z : State} (hw : Hw a0 Z) : (Jvm.Cond.laysFinal "com/example/hushmediator/hushmediator/problem/Problem$Constraint" "com/example/hushmediator/hushmediator/problem/Problem$Constraint" "first" "I").before a0 Z = true := hw _ (List.mem_of_getElem? (i := 21) rfl)
theorem w22 {a0 : Array Value} {Z : State} (hw : Hw a0 Z) : (Jvm.Cond.fieldLink "com/example/hushmediator/hushmediator/problem/Problem$Constraint" (17 : Nat) "com/example/hushmediator/hushmediator/problem/Problem$Constraint" "second" "I").before a0 Z = true := hw _ (List.mem_of_getElem? (i := 22) rfl)
theorem w23 {a0 : Array Value} {Z : State} (hw : Hw a0 Z) : (Jvm.Cond.laysFinal "com/example/hushmediator/hushmediator/problem/Problem$Constraint" "com/example/hushmediator/hushmediator/problem/Problem$Constraint" "second" "I").before a0 Z = true := hw _ (List.mem_of_getElem? (i := 23) rfl)
theorem w24 {a0 : Array Value} {Z : State} (hw : Hw a0 Z) : (Jvm.Cond.fieldLink "com/example/hushmediator/hushmediator/problem/Problem$Constraint" (20 : Nat) "com/example/hushmediator/hushmediator/problem/Problem$Constraint" "secondSize" "I").before a0 Z = true := hw _ (List.mem_of_getElem? (i := 24) rfl)
theorem w25 {a0 : Array Value} {Z : State} (hw : Hw a0 Z) : (Jvm.Cond.laysFinal "com/example/hushmediator/hushmediator/problem/Problem$Constraint" "com/example/hushmediator/hushmediator/problem/Problem$Constraint" "secondSize" "I").before a0 Z = true := hw _ (List.mem_of_getElem? (i := 25) rfl)
theorem w26 {a0 : Array Value} {Z : State} (hw : Hw a0 Z) : (Jvm.Cond.fieldLink "com/example/hushmediator/hushmediator/problem/Problem$Constraint" (23 : Nat) "com/example/hushmediator/hushmediator/problem/Problem$Constraint" "costs" "[J").before a0 Z = true := hw _ (List.mem_of_getElem? (i := 26) rfl)
theorem w27 {a0 : Array Value} {Z : State} (hw : Hw a0 Z) : (Jvm.Cond.laysFinal "com/example/hushmediator/hushmediator/problem/Problem$Constraint" "com/example/hushmediator/hushmediator/problem/Problem$Constraint" "costs" "[J").before a0 Z = true := hw _ (List.mem_of_getElem? (i := 27) rfl)
theorem w28 {a0 : Array Value} {Z : State} (hw : Hw a0 Z) : (Jvm.Cond.methodLink "com/example/hushmediator/hushmediator/problem/ConstraintOtherPinLaw" (14 : Nat) ({ cls := "com/example/hushmediator/hushmediator/problem/Problem$Constraint", name := "other", desc := "(I)I" } : Jvm.MethodName)).before a0 Z = true := hw _ (List.mem_of_getElem? (i := 28) rfl)
theorem w29 {a0 : Array Value} {Z : State} (hw : Hw a0 Z) : (Jvm.Cond.declares ({ cls := "com/example/hushmediator/hushmediator/problem/Problem$Constraint", name := "other", desc := "(I)I" } : Jvm.MethodName)).before a0 Z = true := hw _ (List.mem_of_getElem? (i := 29) rfl)
theorem w30 {a0 : Array Value} {Z : State} (hw : Hw a0 Z) : (Jvm.Cond.instanceMethod ({ cls := "com/example/hushmediator/hushmediator/problem/Problem$Constraint", name := "other", desc := "(I)I" } : Jvm.MethodName)).before a0 Z = true := hw _ (List.mem_of_getElem? (i := 30) rfl)
theorem w31 {a0 : Array Value} {Z : State} (hw : Hw a0 Z) : (Jvm.Cond.selects "com/example/hushmediator/hushmediator/problem/Problem$Constraint" ({ cls := "com/example/hushmediator/hushmediator/problem/Problem$Constraint", name := "other", desc := "(I)I" } : Jvm.MethodName) ({ cls := "com/example/hushmediator/hushmediator/problem/Problem$Constraint", name := "other", desc := "(I)I" } : Jvm.MethodName)).before a0 Z = true := hw _ (List.mem_of_getElem? (i := 31) rfl)
theorem w32 {a0 : Array Value} {Z : State} (hw : Hw a0 Z) : (Jvm.Cond.code ({ cls := "com/example/hushmediator/hushmediator/problem/Problem$Constraint", name := "other", desc := "(I)I" } : Jvm.MethodName) prog_20_method_5_code (2 : Nat) (Option.some Jvm.ClassFile.FieldType.int)).before a0 Z = true := hw _ (List.mem_of_getElem? (i := 32) rfl)
theorem pd0 : parseMethodDescriptor "(Ljava/lang/String;III[J)V" = some ⟨[(.object "java/lang/String"), .int, .int, .int, (.array .long)], none⟩ := by decide +kernel
theorem pd1 : parseMethodDescriptor "(I)I" = some ⟨[.int], some .int⟩ := by decide +kernel
abbrev K0 : Mt := (x, code, maxLocals, ret, room_1)
def K1 : Mt := (⟨"com/example/hushmediator/hushmediator/problem/Problem$Constraint", "<init>", "(Ljava/lang/String;III[J)V"⟩, prog_20_method_1_code, 6, none, ⟨1, 0, 0, 12⟩)
def K3 : Mt := (⟨"com/example/hushmediator/hushmediator/problem/Problem$Constraint", "other", "(I)I"⟩, prog_20_method_5_code, 2, some .int, ⟨0, 0, 0, 0⟩)
theorem d0_0 : decode K0.bytes 0 = .ok (.iload_n 0, 1) := at_0
theorem d0_1 : decode K0.bytes 1 = .ok (.iload_n 1, 1) := at_1
theorem d0_2 : decode K0.bytes 2 = .ok (.if_icmp .ne 5, 3) := at_2
theorem d0_5 : decode K0.bytes 5 = .ok (.iconst 1, 1) := at_5
theorem d0_6 : decode K0.bytes 6 = .ok (.ireturn, 1) := at_6
theorem d0_7 : decode K0.bytes 7 = .ok (.new 7, 3) := at_7
theorem d0_10 : decode K0.bytes 10 = .ok (.dup, 1) := at_10
theorem d0_11 : decode K0.bytes 11 = .ok (.ldc 9, 2) := at_11
theorem d0_13 : decode K0.bytes 13 = .ok (.iload_n 0, 1) := at_13
theorem d0_14 : decode K0.bytes 14 = .ok (.iload_n 1, 1) := at_14
theorem d0_15 : decode K0.bytes 15 = .ok (.iconst 1, 1) := at_15
theorem d0_16 : decode K0.bytes 16 = .ok (.iconst 1, 1) := at_16
theorem d0_17 : decode K0.bytes 17 = .ok (.newarray .long, 2) := at_17
theorem d0_19 : decode K0.bytes 19 = .ok (.dup, 1) := at_19
theorem d0_20 : decode K0.bytes 20 = .ok (.iconst 0, 1) := at_20
theorem d0_21 : decode K0.bytes 21 = .ok (.lconst 0, 1) := at_21
theorem d0_22 : decode K0.bytes 22 = .ok (.lastore, 1) := at_22
theorem d0_23 : decode K0.bytes 23 = .ok (.invokespecial 11, 3) := at_23
theorem d0_26 : decode K0.bytes 26 = .ok (.astore_n 3, 1) := at_26
theorem d0_27 : decode K0.bytes 27 = .ok (.iload_n 2, 1) := at_27
theorem d0_28 : decode K0.bytes 28 = .ok (.iconst 1, 1) := at_28
theorem d0_29 : decode K0.bytes 29 = .ok (.iand, 1) := at_29
theorem d0_30 : decode K0.bytes 30 = .ok (.ifCond .eq 7, 3) := at_30
theorem d0_33 : decode K0.bytes 33 = .ok (.iconst 1, 1) := at_33
theorem d0_34 : decode K0.bytes 34 = .ok (.goto 4, 3) := at_34
theorem d0_37 : decode K0.bytes 37 = .ok (.iconst 0, 1) := at_37
theorem d0_38 : decode K0.bytes 38 = .ok (.istore 4, 2) := at_38
theorem d0_40 : decode K0.bytes 40 = .ok (.iload 4, 2) := at_40
theorem d0_42 : decode K0.bytes 42 = .ok (.ifCond .eq 7, 3) := at_42
theorem d0_45 : decode K0.bytes 45 = .ok (.iload_n 0, 1) := at_45
theorem d0_46 : decode K0.bytes 46 = .ok (.goto 4, 3) := at_46
theorem d0_49 : decode K0.bytes 49 = .ok (.iload_n 1, 1) := at_49
theorem d0_50 : decode K0.bytes 50 = .ok (.istore 5, 2) := at_50
theorem d0_52 : decode K0.bytes 52 = .ok (.iload 4, 2) := at_52
theorem d0_54 : decode K0.bytes 54 = .ok (.ifCond .eq 7, 3) := at_54
theorem d0_57 : decode K0.bytes 57 = .ok (.iload_n 1, 1) := at_57
theorem d0_58 : decode K0.bytes 58 = .ok (.goto 4, 3) := at_58
theorem d0_61 : decode K0.bytes 61 = .ok (.iload_n 0, 1) := at_61
theorem d0_62 : decode K0.bytes 62 = .ok (.istore 6, 2) := at_62
theorem d0_64 : decode K0.bytes 64 = .ok (.aload_n 3, 1) := at_64
theorem d0_65 : decode K0.bytes 65 = .ok (.iload 5, 2) := at_65
theorem d0_67 : decode K0.bytes 67 = .ok (.invokevirtual 14, 3) := at_67
theorem d0_70 : decode K0.bytes 70 = .ok (.istore 7, 2) := at_70
theorem d0_72 : decode K0.bytes 72 = .ok (.iload 7, 2) := at_72
theorem d0_74 : decode K0.bytes 74 = .ok (.iload 6, 2) := at_74
theorem d0_76 : decode K0.bytes 76 = .ok (.if_icmp .ne 18, 3) := at_76
theorem d0_79 : decode K0.bytes 79 = .ok (.aload_n 3, 1) := at_79
theorem d0_80 : decode K0.bytes 80 = .ok (.iload 7, 2) := at_80
theorem d0_82 : decode K0.bytes 82 = .ok (.invokevirtual 14, 3) := at_82
theorem d0_85 : decode K0.bytes 85 = .ok (.iload 5, 2) := at_85
theorem d0_87 : decode K0.bytes 87 = .ok (.if_icmp .ne 7, 3) := at_87
theorem d0_90 : decode K0.bytes 90 = .ok (.iconst 1, 1) := at_90
theorem d0_91 : decode K0.bytes 91 = .ok (.goto 4, 3) := at_91
theorem d0_95 : decode K0.bytes 95 = .ok (.ireturn, 1) := at_95
theorem d1_0 : decode K1.bytes 0 = .ok (.aload_n 0, 1) := by decide +kernel
theorem d1_1 : decode K1.bytes 1 = .ok (.invokespecial 1, 3) := by decide +kernel
theorem d1_4 : decode K1.bytes 4 = .ok (.aload_n 0, 1) := by decide +kernel
theorem d1_5 : decode K1.bytes 5 = .ok (.aload_n 1, 1) := by decide +kernel
theorem d1_6 : decode K1.bytes 6 = .ok (.putfield 7, 3) := by decide +kernel
theorem d1_9 : decode K1.bytes 9 = .ok (.aload_n 0, 1) := by decide +kernel
theorem d1_10 : decode K1.bytes 10 = .ok (.iload_n 2, 1) := by decide +kernel
theorem d1_11 : decode K1.bytes 11 = .ok (.putfield 13, 3) := by decide +kernel
theorem d1_14 : decode K1.bytes 14 = .ok (.aload_n 0, 1) := by decide +kernel
theorem d1_15 : decode K1.bytes 15 = .ok (.iload_n 3, 1) := by decide +kernel
theorem d1_16 : decode K1.bytes 16 = .ok (.putfield 17, 3) := by decide +kernel
theorem d1_19 : decode K1.bytes 19 = .ok (.aload_n 0, 1) := by decide +kernel
theorem d1_20 : decode K1.bytes 20 = .ok (.iload 4, 2) := by decide +kernel
theorem d1_22 : decode K1.bytes 22 = .ok (.putfield 20, 3) := by decide +kernel
theorem d1_25 : decode K1.bytes 25 = .ok (.aload_n 0, 1) := by decide +kernel
theorem d1_26 : decode K1.bytes 26 = .ok (.aload 5, 2) := by decide +kernel
theorem d1_28 : decode K1.bytes 28 = .ok (.putfield 23, 3) := by decide +kernel
theorem d1_31 : decode K1.bytes 31 = .ok (.return_, 1) := by decide +kernel
theorem d3_0 : decode K3.bytes 0 = .ok (.iload_n 1, 1) := by decide +kernel
theorem d3_1 : decode K3.bytes 1 = .ok (.aload_n 0, 1) := by decide +kernel
theorem d3_2 : decode K3.bytes 2 = .ok (.getfield 13, 3) := by decide +kernel
theorem d3_5 : decode K3.bytes 5 = .ok (.if_icmp .ne 10, 3) := by decide +kernel
theorem d3_8 : decode K3.bytes 8 = .ok (.aload_n 0, 1) := by decide +kernel
theorem d3_9 : decode K3.bytes 9 = .ok (.getfield 17, 3) := by decide +kernel
theorem d3_12 : decode K3.bytes 12 = .ok (.goto 7, 3) := by decide +kernel
theorem d3_15 : decode K3.bytes 15 = .ok (.aload_n 0, 1) := by decide +kernel
theorem d3_16 : decode K3.bytes 16 = .ok (.getfield 13, 3) := by decide +kernel
theorem d3_19 : decode K3.bytes 19 = .ok (.ireturn, 1) := by decide +kernel
theorem own_strW {a0 : Array Value} {Z : State} (hw : Hw a0 Z) : ∀ a ∈ Bundle.stringAtoms, a.before a0 Z = true := by
  intro a ha
  simp only [Bundle.stringAtoms, List.mem_cons, List.not_mem_nil, or_false] at ha
  rcases ha with rfl | rfl | rfl | rfl | rfl | rfl | rfl
  · exact (w4 hw)
  · exact (w5 hw)
  · exact (w6 hw)
  · exact (w7 hw)
  · exact (w8 hw)
  · exact (w9 hw)
  · exact (w10 hw)
def own_oth (x f s : Int32) : Int32 := if x = f then s else f
theorem own_a (f s : Int32) : own_oth f f s = s := by simp [own_oth]
theorem own_b (f s : Int32) (h : ¬ f = s) : own_oth s f s = f := by simp [own_oth, h]
set_option maxRecDepth 65536 in
set_option maxHeartbeats 4000000 in
theorem rm1 (l : Launch) (Z : State) (a0 : Array Value) (hw : Hw a0 Z) (a : Addr) (s : Addr) (p : Int32) (q : Int32) (r : Int32) (b : Addr)  (h0 : Heap) (n0 : Nat) (Z0 : n0 ≤ h0.size) (Ea : Exa Z h0 a "com/example/hushmediator/hushmediator/problem/Problem$Constraint") (F0 : Fld Z h0 a "com/example/hushmediator/hushmediator/problem/Problem$Constraint" "name" "Ljava/lang/String;" .null) (F1 : Fld Z h0 a "com/example/hushmediator/hushmediator/problem/Problem$Constraint" "first" "I" (.int (0 : Int32))) (F2 : Fld Z h0 a "com/example/hushmediator/hushmediator/problem/Problem$Constraint" "second" "I" (.int (0 : Int32))) (F3 : Fld Z h0 a "com/example/hushmediator/hushmediator/problem/Problem$Constraint" "secondSize" "I" (.int (0 : Int32))) (F4 : Fld Z h0 a "com/example/hushmediator/hushmediator/problem/Problem$Constraint" "costs" "[J" .null) (ga : n0 ≤ a) :
    Ct l Z K1 #[(.ref a), (.ref s), (.int p), (.int q), (.int r), (.ref b)] h0 n0 (fun v h => v = none ∧ Keep h0 h [a] ∧ Fld Z h a "com/example/hushmediator/hushmediator/problem/Problem$Constraint" "first" "I" (.int p) ∧ Fld Z h a "com/example/hushmediator/hushmediator/problem/Problem$Constraint" "second" "I" (.int q)) := by
  refine Ct.of (Ls := #[.val (.ref a), .val (.ref s), .val (.int p), .val (.int q), .val (.int r), .val (.ref b)]) (plainFor_of_name (by first | decide +kernel | (simp [plainName, overriddenIn]; done))) (fun m => by first | rfl | (simp [entryFrame, mkF, argsToLocals, Value.category]; done)) ?_
  intro E T W
  refine go_aloadN (pc' := 1) W d1_0 rfl rfl rfl ?_
  refine go_initO (pc' := 4) W (w15 hw) (w16 hw) (w17 hw) d1_1 rfl (nb rfl) (nb rfl) rfl ?_
  intro T1 W1
  refine go_aloadN (pc' := 5) W1 d1_4 rfl rfl rfl ?_
  refine go_aloadN (pc' := 6) W1 d1_5 rfl rfl rfl ?_
  refine go_putF (pc' := 9) W1 (host := "") (Or.inl (w18 hw)) Via.refl F0 Ea (Or.inr ⟨(w19 hw), rfl, rfl⟩) (w1 hw) (ty := (.object "java/lang/String")) (by decide) rfl rfl ga d1_6 rfl ?_
  intro T2 h2 W2 R2
  have f3 := Ea.wr R2
  have f4 := F0.same R2
  have f5 := F1.other R2 (Or.inr (slot_ne (Or.inr (w21 hw)) (Or.inr (w19 hw)) (by decide) (t := .int) (t' := (.object "java/lang/String")) (by decide) (by decide)))
  have f6 := F2.other R2 (Or.inr (slot_ne (Or.inr (w23 hw)) (Or.inr (w19 hw)) (by decide) (t := .int) (t' := (.object "java/lang/String")) (by decide) (by decide)))
  have f7 := F3.other R2 (Or.inr (slot_ne (Or.inr (w25 hw)) (Or.inr (w19 hw)) (by decide) (t := .int) (t' := (.object "java/lang/String")) (by decide) (by decide)))
  have f8 := F4.other R2 (Or.inr (slot_ne (Or.inr (w27 hw)) (Or.inr (w19 hw)) (by decide) (t := (.array .long)) (t' := (.object "java/lang/String")) (by decide) (by decide)))
  have k9 := (Keep.refl h0 [a]).wr R2 (Or.inl (by simp))
  have z10 := Nat.le_trans Z0 (Keep.of_wr R2).1
  refine go_aloadN (pc' := 10) W2 d1_9 rfl rfl rfl ?_
  refine go_iloadN (pc' := 11) W2 d1_10 rfl rfl ?_
  refine go_putF (pc' := 14) W2 (host := "") (Or.inl (w20 hw)) Via.refl f5 f3 (Or.inr ⟨(w21 hw), rfl, rfl⟩) (w1 hw) (ty := .int) (by decide) rfl rfl ga d1_11 rfl ?_
  intro T11 h11 W11 R11
  have f12 := f3.wr R11
  have f13 := f4.other R11 (Or.inr (slot_ne (Or.inr (w19 hw)) (Or.inr (w21 hw)) (by decide) (t := (.object "java/lang/String")) (t' := .int) (by decide) (by decide)))
  have f14 := f5.same R11
  have f15 := f6.other R11 (Or.inr (slot_ne (Or.inr (w23 hw)) (Or.inr (w21 hw)) (by decide) (t := .int) (t' := .int) (by decide) (by decide)))
  have f16 := f7.other R11 (Or.inr (slot_ne (Or.inr (w25 hw)) (Or.inr (w21 hw)) (by decide) (t := .int) (t' := .int) (by decide) (by decide)))
  have f17 := f8.other R11 (Or.inr (slot_ne (Or.inr (w27 hw)) (Or.inr (w21 hw)) (by decide) (t := (.array .long)) (t' := .int) (by decide) (by decide)))
  have k18 := k9.wr R11 (Or.inl (by simp))
  have z19 := Nat.le_trans z10 (Keep.of_wr R11).1
  refine go_aloadN (pc' := 15) W11 d1_14 rfl rfl rfl ?_
  refine go_iloadN (pc' := 16) W11 d1_15 rfl rfl ?_
  refine go_putF (pc' := 19) W11 (host := "") (Or.inl (w22 hw)) Via.refl f15 f12 (Or.inr ⟨(w23 hw), rfl, rfl⟩) (w1 hw) (ty := .int) (by decide) rfl rfl ga d1_16 rfl ?_
  intro T20 h20 W20 R20
  have f21 := f12.wr R20
  have f22 := f13.other R20 (Or.inr (slot_ne (Or.inr (w19 hw)) (Or.inr (w23 hw)) (by decide) (t := (.object "java/lang/String")) (t' := .int) (by decide) (by decide)))
  have f23 := f14.other R20 (Or.inr (slot_ne (Or.inr (w21 hw)) (Or.inr (w23 hw)) (by decide) (t := .int) (t' := .int) (by decide) (by decide)))
  have f24 := f15.same R20
  have f25 := f16.other R20 (Or.inr (slot_ne (Or.inr (w25 hw)) (Or.inr (w23 hw)) (by decide) (t := .int) (t' := .int) (by decide) (by decide)))
  have f26 := f17.other R20 (Or.inr (slot_ne (Or.inr (w27 hw)) (Or.inr (w23 hw)) (by decide) (t := (.array .long)) (t' := .int) (by decide) (by decide)))
  have k27 := k18.wr R20 (Or.inl (by simp))
  have z28 := Nat.le_trans z19 (Keep.of_wr R20).1
  refine go_aloadN (pc' := 20) W20 d1_19 rfl rfl rfl ?_
  refine go_iload (pc' := 22) W20 d1_20 rfl rfl ?_
  refine go_putF (pc' := 25) W20 (host := "") (Or.inl (w24 hw)) Via.refl f25 f21 (Or.inr ⟨(w25 hw), rfl, rfl⟩) (w1 hw) (ty := .int) (by decide) rfl rfl ga d1_22 rfl ?_
  intro T29 h29 W29 R29
  have f30 := f21.wr R29
  have f31 := f22.other R29 (Or.inr (slot_ne (Or.inr (w19 hw)) (Or.inr (w25 hw)) (by decide) (t := (.object "java/lang/String")) (t' := .int) (by decide) (by decide)))
  have f32 := f23.other R29 (Or.inr (slot_ne (Or.inr (w21 hw)) (Or.inr (w25 hw)) (by decide) (t := .int) (t' := .int) (by decide) (by decide)))
  have f33 := f24.other R29 (Or.inr (slot_ne (Or.inr (w23 hw)) (Or.inr (w25 hw)) (by decide) (t := .int) (t' := .int) (by decide) (by decide)))
  have f34 := f25.same R29
  have f35 := f26.other R29 (Or.inr (slot_ne (Or.inr (w27 hw)) (Or.inr (w25 hw)) (by decide) (t := (.array .long)) (t' := .int) (by decide) (by decide)))
  have k36 := k27.wr R29 (Or.inl (by simp))
  have z37 := Nat.le_trans z28 (Keep.of_wr R29).1
  refine go_aloadN (pc' := 26) W29 d1_25 rfl rfl rfl ?_
  refine go_aload (pc' := 28) W29 d1_26 rfl rfl rfl ?_
  refine go_putF (pc' := 31) W29 (host := "") (Or.inl (w26 hw)) Via.refl f35 f30 (Or.inr ⟨(w27 hw), rfl, rfl⟩) (w1 hw) (ty := (.array .long)) (by decide) rfl rfl ga d1_28 rfl ?_
  intro T38 h38 W38 R38
  have f39 := f30.wr R38
  have f40 := f31.other R38 (Or.inr (slot_ne (Or.inr (w19 hw)) (Or.inr (w27 hw)) (by decide) (t := (.object "java/lang/String")) (t' := (.array .long)) (by decide) (by decide)))
  have f41 := f32.other R38 (Or.inr (slot_ne (Or.inr (w21 hw)) (Or.inr (w27 hw)) (by decide) (t := .int) (t' := (.array .long)) (by decide) (by decide)))
  have f42 := f33.other R38 (Or.inr (slot_ne (Or.inr (w23 hw)) (Or.inr (w27 hw)) (by decide) (t := .int) (t' := (.array .long)) (by decide) (by decide)))
  have f43 := f34.other R38 (Or.inr (slot_ne (Or.inr (w25 hw)) (Or.inr (w27 hw)) (by decide) (t := .int) (t' := (.array .long)) (by decide) (by decide)))
  have f44 := f35.same R38
  have k45 := k36.wr R38 (Or.inl (by simp))
  have z46 := Nat.le_trans z37 (Keep.of_wr R38).1
  exact go_retV W38 rfl d1_31 (nb rfl) (nb rfl) (⟨rfl, k45, f41, f42⟩)
set_option maxRecDepth 65536 in
set_option maxHeartbeats 4000000 in
theorem rm3 (l : Launch) (Z : State) (a0 : Array Value) (hw : Hw a0 Z) (a : Addr) (x : Int32) (f s : Int32) (h0 : Heap) (n0 : Nat) (Z0 : n0 ≤ h0.size) (F1 : Fld Z h0 a "com/example/hushmediator/hushmediator/problem/Problem$Constraint" "first" "I" (.int f)) (F2 : Fld Z h0 a "com/example/hushmediator/hushmediator/problem/Problem$Constraint" "second" "I" (.int s)) :
    Ct l Z K3 #[(.ref a), (.int x)] h0 n0 (fun v h => v = some (.int (own_oth x f s)) ∧ h = h0) := by
  refine Ct.of (Ls := #[.val (.ref a), .val (.int x)]) (plainFor_of_name (by first | decide +kernel | (simp [plainName, overriddenIn]; done))) (fun m => by first | rfl | (simp [entryFrame, mkF, argsToLocals, Value.category]; done)) ?_
  intro E T W
  refine go_iloadN (pc' := 1) W d3_0 rfl rfl ?_
  refine go_aloadN (pc' := 2) W d3_1 rfl rfl rfl ?_
  refine go_getF (pc' := 5) W (host := "") (Or.inl (w20 hw)) Via.refl F1 d3_2 rfl ?_
  intro T47 W47
  refine go_icmp_ne (pt := 15) (pf := 8) W47 d3_5 (by decide) rfl rfl (fun c5_48 => ?_) (fun c5_48 => ?_)
  · -- pc 5 taken
    refine go_aloadN (pc' := 16) W47 d3_15 rfl rfl rfl ?_
    refine go_getF (pc' := 19) W47 (host := "") (Or.inl (w20 hw)) Via.refl F1 d3_16 rfl ?_
    intro T49 W49
    exact go_retI W49 (t := .int) rfl (by simp) rfl d3_19 (nb rfl) (nb rfl) (⟨by simp [own_oth, c5_48], rfl⟩)
  · -- pc 5 not taken
    refine go_aloadN (pc' := 9) W47 d3_8 rfl rfl rfl ?_
    refine go_getF (pc' := 12) W47 (host := "") (Or.inl (w22 hw)) Via.refl F2 d3_9 rfl ?_
    intro T50 W50
    refine go_goto (pc' := 19) W50 d3_12 (by decide) rfl ?_
    exact go_retI W50 (t := .int) rfl (by simp) rfl d3_19 (nb rfl) (nb rfl) (⟨by simp [own_oth, c5_48], rfl⟩)
set_option maxRecDepth 65536 in
set_option maxHeartbeats 4000000 in
theorem rm0 (l : Launch) (Z : State) (a0 : Array Value) (hw : Hw a0 Z) (x0 : Int32) (x1 : Int32) (x2 : Int32)  (h0 : Heap) (n0 : Nat) (Z0 : n0 ≤ h0.size)  :
    CtW l Z K0 #[(.int x0), (.int x1), (.int x2)] h0 n0 (fun v h => v = some (.int 1)) := by
  refine CtW.of (Ls := #[.val (.int x0), .val (.int x1), .val (.int x2), .unset, .unset, .unset, .unset, .unset]) (plainFor_of_name (by first | decide +kernel | (simp [plainName, overriddenIn]; done))) (fun m => by first | rfl | (simp [entryFrame, mkF, argsToLocals, Value.category]; done)) ?_
  intro s0 E T REB W
  refine go_iloadN (pc' := 1) W d0_0 rfl rfl ?_
  refine go_iloadN (pc' := 2) W d0_1 rfl rfl ?_
  refine go_icmp_ne (pt := 7) (pf := 5) W d0_2 (by decide) rfl rfl (fun c2_51 => ?_) (fun c2_51 => ?_)
  · -- pc 2 taken
    refine go_new (pc' := 10) W (w0 hw) (w1 hw) (w2 hw) d0_7 (nb rfl) (nb rfl) rfl ?_
    intro T52 h52 b52 g52 W52 E52 A52 D52 M52
    have ge53 : n0 ≤ b52 := by rw [g52]; exact Z0
    have reb54 := REB.le E52.1
    have z55 := Nat.le_trans Z0 E52.1
    have f56 : Fld Z h52 b52 "com/example/hushmediator/hushmediator/problem/Problem$Constraint" "name" "Ljava/lang/String;" .null := D52 (Or.inr (w19 hw)) (ty := (.object "java/lang/String")) (by decide)
    have f57 : Fld Z h52 b52 "com/example/hushmediator/hushmediator/problem/Problem$Constraint" "first" "I" (.int (0 : Int32)) := D52 (Or.inr (w21 hw)) (ty := .int) (by decide)
    have f58 : Fld Z h52 b52 "com/example/hushmediator/hushmediator/problem/Problem$Constraint" "second" "I" (.int (0 : Int32)) := D52 (Or.inr (w23 hw)) (ty := .int) (by decide)
    have f59 : Fld Z h52 b52 "com/example/hushmediator/hushmediator/problem/Problem$Constraint" "secondSize" "I" (.int (0 : Int32)) := D52 (Or.inr (w25 hw)) (ty := .int) (by decide)
    have f60 : Fld Z h52 b52 "com/example/hushmediator/hushmediator/problem/Problem$Constraint" "costs" "[J" .null := D52 (Or.inr (w27 hw)) (ty := (.array .long)) (by decide)
    refine go_dup (pc' := 11) W52 d0_10 rfl rfl ?_
    refine go_ldcS (pc' := 13) W52 reb54 (w3 hw) (own_strW hw) d0_11 4 (by decide) (by decide) (nb rfl) (nb rfl) rfl ?_
    intro E T61 h61 b61 W61 reb61 E61
    have f62 := A52.ext E61
    have f63 := f56.ext E61
    have f64 := f57.ext E61
    have f65 := f58.ext E61
    have f66 := f59.ext E61
    have f67 := f60.ext E61
    have z68 := Nat.le_trans z55 E61.1
    show Go E _ (Fm E T61 13 #[.val (.int x0), .val (.int x1), .val (.int x2), .unset, .unset, .unset, .unset, .unset] [(.ref b61), (.ref b52), (.ref b52)])
    refine go_iloadN (pc' := 14) W61 d0_13 rfl rfl ?_
    refine go_iloadN (pc' := 15) W61 d0_14 rfl rfl ?_
    refine go_iconst (pc' := 16) (z := 1) W61 d0_15 rfl rfl ?_
    refine go_iconst (pc' := 17) (z := 1) W61 d0_16 rfl rfl ?_
    refine go_newP (pc' := 19) (aty := .long) W61 (w11 hw) d0_17 (by decide) 1 (by decide) (by decide) (nb rfl) (nb rfl) rfl ?_
    intro T69 h69 cA69 b69 g69 W69 E69 A69
    have ne70 : b52 ≠ b69 := by rw [g69]; exact Nat.ne_of_lt f62.lt
    have ge71 : n0 ≤ b69 := by rw [g69]; exact z68
    have f72 := f62.ext E69
    have f73 := f63.ext E69
    have f74 := f64.ext E69
    have f75 := f65.ext E69
    have f76 := f66.ext E69
    have f77 := f67.ext E69
    have reb78 := reb61.le E69.1
    have z79 := Nat.le_trans z68 E69.1
    have f80 : Af Z h69 b69 .long 1 (fun _ => (.long (0 : Int64))) := Af.new A69 rfl
    refine go_dup (pc' := 20) W69 d0_19 rfl rfl ?_
    refine go_iconst (pc' := 21) (z := 0) W69 d0_20 rfl rfl ?_
    refine go_lconst (pc' := 22) (z := 0) W69 d0_21 rfl rfl ?_
    refine go_stJF (pc' := 23) (i := 0) W69 f80 (by decide) (by decide) ge71 d0_22 rfl ?_
    intro T81 h81 W81 R81 A81
    have f82 := f72.wr R81
    have f83 := f73.other R81 (Or.inl ne70)
    have f84 := f74.other R81 (Or.inl ne70)
    have f85 := f75.other R81 (Or.inl ne70)
    have f86 := f76.other R81 (Or.inl ne70)
    have f87 := f77.other R81 (Or.inl ne70)
    have reb89 := reb78.le (Keep.of_wr R81).1
    have z91 := Nat.le_trans z79 (Keep.of_wr R81).1
    refine go_callN (a := b52) (kc := K1) (argsL := [(.ref b61), (.int x0), (.int x1), (.int (1 : Int32)), (.ref b69)]) (rest := [(.ref b52)]) (pc' := 26) W81 (w12 hw) (w13 hw) (w2 hw) (w14 hw) (rm1 E.l Z a0 hw b52 b61 x0 x1 (1 : Int32) b69 h81 n0 z91 f82 f83 f84 f85 f86 f87 ge53) rfl rfl (by decide) pd0 rfl rfl rfl (nb rfl) (nb rfl) (nb rfl) (nb rfl) d0_23 rfl ?_
    rintro _ T92 h92 ⟨rfl, K92, f192, f292⟩ W92
    have f93 := f82.keep K92
    have reb100 := reb89.le K92.1
    have z101 := Nat.le_trans z91 K92.1
    show Go E _ (Fm E T92 26 #[.val (.int x0), .val (.int x1), .val (.int x2), .unset, .unset, .unset, .unset, .unset] [(.ref b52)])
    refine go_astoreN (pc' := 27) (l' := #[.val (.int x0), .val (.int x1), .val (.int x2), .val (.ref b52), .unset, .unset, .unset, .unset]) W92 d0_26 rfl rfl rfl ?_
    refine go_iloadN (pc' := 28) W92 d0_27 rfl rfl ?_
    refine go_iconst (pc' := 29) (z := 1) W92 d0_28 rfl rfl ?_
    refine go_iand (pc' := 30) W92 d0_29 rfl ?_
    refine go_if_eq (pt := 37) (pf := 33) W92 d0_30 (by decide) rfl rfl (fun c30_102 => ?_) (fun c30_102 => ?_)
    · -- pc 30 taken
      refine go_iconst (pc' := 38) (z := 0) W92 d0_37 rfl rfl ?_
      refine go_istore (pc' := 40) (l' := #[.val (.int x0), .val (.int x1), .val (.int x2), .val (.ref b52), .val (.int (0 : Int32)), .unset, .unset, .unset]) W92 d0_38 rfl rfl ?_
      refine go_iload (pc' := 42) W92 d0_40 rfl rfl ?_
      refine go_if_eq (pt := 49) (pf := 45) W92 d0_42 (by decide) rfl rfl (fun c42_103 => ?_) (fun c42_103 => ?_)
      · -- pc 42 taken
        refine go_iloadN (pc' := 50) W92 d0_49 rfl rfl ?_
        refine go_istore (pc' := 52) (l' := #[.val (.int x0), .val (.int x1), .val (.int x2), .val (.ref b52), .val (.int (0 : Int32)), .val (.int x1), .unset, .unset]) W92 d0_50 rfl rfl ?_
        refine go_iload (pc' := 54) W92 d0_52 rfl rfl ?_
        refine go_if_eq (pt := 61) (pf := 57) W92 d0_54 (by decide) rfl rfl (fun c54_104 => ?_) (fun c54_104 => ?_)
        · -- pc 54 taken
          refine go_iloadN (pc' := 62) W92 d0_61 rfl rfl ?_
          refine go_istore (pc' := 64) (l' := #[.val (.int x0), .val (.int x1), .val (.int x2), .val (.ref b52), .val (.int (0 : Int32)), .val (.int x1), .val (.int x0), .unset]) W92 d0_62 rfl rfl ?_
          refine go_aloadN (pc' := 65) W92 d0_64 rfl rfl rfl ?_
          refine go_iload (pc' := 67) W92 d0_65 rfl rfl ?_
          refine go_callV (a := b52) (kc := K3) (argsL := [(.int x1)]) (rest := []) (pc' := 70) W92 (w28 hw) (w29 hw) (nf_sel W92 (w31 hw)) (w31 hw) (w30 hw) (w2 hw) (w32 hw) f93 (rm3 E.l Z a0 hw b52 x1 x0 x1 h92 n0 z101 f192 f292) (by decide) pd1 rfl rfl rfl (nb rfl) (nb rfl) (nb rfl) (nb rfl) d0_67 rfl ?_
          rintro _ T105 h105 ⟨rfl, q105⟩ W105
          replace W105 := W105.sub q105
          show Go E _ (Fm E T105 70 #[.val (.int x0), .val (.int x1), .val (.int x2), .val (.ref b52), .val (.int (0 : Int32)), .val (.int x1), .val (.int x0), .unset] [(.int (own_oth x1 x0 x1))])
          refine go_istore (pc' := 72) (l' := #[.val (.int x0), .val (.int x1), .val (.int x2), .val (.ref b52), .val (.int (0 : Int32)), .val (.int x1), .val (.int x0), .val (.int (own_oth x1 x0 x1))]) W105 d0_70 rfl rfl ?_
          refine go_iload (pc' := 74) W105 d0_72 rfl rfl ?_
          refine go_iload (pc' := 76) W105 d0_74 rfl rfl ?_
          refine go_icmp_ne (pt := 94) (pf := 79) W105 d0_76 (by decide) rfl rfl (fun c76_106 => ?_) (fun c76_106 => ?_)
          · exact absurd (by simp [own_oth, c2_51, fun q => c2_51 (Eq.symm q)]) c76_106
          · -- pc 76 not taken
            refine go_aloadN (pc' := 80) W105 d0_79 rfl rfl rfl ?_
            refine go_iload (pc' := 82) W105 d0_80 rfl rfl ?_
            refine go_callV (a := b52) (kc := K3) (argsL := [(.int (own_oth x1 x0 x1))]) (rest := []) (pc' := 85) W105 (w28 hw) (w29 hw) (nf_sel W105 (w31 hw)) (w31 hw) (w30 hw) (w2 hw) (w32 hw) f93 (rm3 E.l Z a0 hw b52 (own_oth x1 x0 x1) x0 x1 h92 n0 z101 f192 f292) (by decide) pd1 rfl rfl rfl (nb rfl) (nb rfl) (nb rfl) (nb rfl) d0_82 rfl ?_
            rintro _ T107 h107 ⟨rfl, q107⟩ W107
            replace W107 := W107.sub q107
            show Go E _ (Fm E T107 85 #[.val (.int x0), .val (.int x1), .val (.int x2), .val (.ref b52), .val (.int (0 : Int32)), .val (.int x1), .val (.int x0), .val (.int (own_oth x1 x0 x1))] [(.int (own_oth (own_oth x1 x0 x1) x0 x1))])
            refine go_iload (pc' := 87) W107 d0_85 rfl rfl ?_
            refine go_icmp_ne (pt := 94) (pf := 90) W107 d0_87 (by decide) rfl rfl (fun c87_108 => ?_) (fun c87_108 => ?_)
            · exact absurd (by simp [own_oth, c2_51, fun q => c2_51 (Eq.symm q)]) c87_108
            · -- pc 87 not taken
              refine go_iconst (pc' := 91) (z := 1) W107 d0_90 rfl rfl ?_
              refine go_goto (pc' := 95) W107 d0_91 (by decide) rfl ?_
              exact go_retIW W107 reb100 (t := .boolean) rfl (by simp) rfl d0_95 (nb rfl) (nb rfl) (rfl)
        · exact absurd c54_104 (by decide)
      · exact absurd c42_103 (by decide)
    · -- pc 30 not taken
      refine go_iconst (pc' := 34) (z := 1) W92 d0_33 rfl rfl ?_
      refine go_goto (pc' := 38) W92 d0_34 (by decide) rfl ?_
      refine go_istore (pc' := 40) (l' := #[.val (.int x0), .val (.int x1), .val (.int x2), .val (.ref b52), .val (.int (1 : Int32)), .unset, .unset, .unset]) W92 d0_38 rfl rfl ?_
      refine go_iload (pc' := 42) W92 d0_40 rfl rfl ?_
      refine go_if_eq (pt := 49) (pf := 45) W92 d0_42 (by decide) rfl rfl (fun c42_109 => ?_) (fun c42_109 => ?_)
      · exact absurd c42_109 (by decide)
      · -- pc 42 not taken
        refine go_iloadN (pc' := 46) W92 d0_45 rfl rfl ?_
        refine go_goto (pc' := 50) W92 d0_46 (by decide) rfl ?_
        refine go_istore (pc' := 52) (l' := #[.val (.int x0), .val (.int x1), .val (.int x2), .val (.ref b52), .val (.int (1 : Int32)), .val (.int x0), .unset, .unset]) W92 d0_50 rfl rfl ?_
        refine go_iload (pc' := 54) W92 d0_52 rfl rfl ?_
        refine go_if_eq (pt := 61) (pf := 57) W92 d0_54 (by decide) rfl rfl (fun c54_110 => ?_) (fun c54_110 => ?_)
        · exact absurd c54_110 (by decide)
        · -- pc 54 not taken
          refine go_iloadN (pc' := 58) W92 d0_57 rfl rfl ?_
          refine go_goto (pc' := 62) W92 d0_58 (by decide) rfl ?_
          refine go_istore (pc' := 64) (l' := #[.val (.int x0), .val (.int x1), .val (.int x2), .val (.ref b52), .val (.int (1 : Int32)), .val (.int x0), .val (.int x1), .unset]) W92 d0_62 rfl rfl ?_
          refine go_aloadN (pc' := 65) W92 d0_64 rfl rfl rfl ?_
          refine go_iload (pc' := 67) W92 d0_65 rfl rfl ?_
          refine go_callV (a := b52) (kc := K3) (argsL := [(.int x0)]) (rest := []) (pc' := 70) W92 (w28 hw) (w29 hw) (nf_sel W92 (w31 hw)) (w31 hw) (w30 hw) (w2 hw) (w32 hw) f93 (rm3 E.l Z a0 hw b52 x0 x0 x1 h92 n0 z101 f192 f292) (by decide) pd1 rfl rfl rfl (nb rfl) (nb rfl) (nb rfl) (nb rfl) d0_67 rfl ?_
          rintro _ T111 h111 ⟨rfl, q111⟩ W111
          replace W111 := W111.sub q111
          show Go E _ (Fm E T111 70 #[.val (.int x0), .val (.int x1), .val (.int x2), .val (.ref b52), .val (.int (1 : Int32)), .val (.int x0), .val (.int x1), .unset] [(.int (own_oth x0 x0 x1))])
          refine go_istore (pc' := 72) (l' := #[.val (.int x0), .val (.int x1), .val (.int x2), .val (.ref b52), .val (.int (1 : Int32)), .val (.int x0), .val (.int x1), .val (.int (own_oth x0 x0 x1))]) W111 d0_70 rfl rfl ?_
          refine go_iload (pc' := 74) W111 d0_72 rfl rfl ?_
          refine go_iload (pc' := 76) W111 d0_74 rfl rfl ?_
          refine go_icmp_ne (pt := 94) (pf := 79) W111 d0_76 (by decide) rfl rfl (fun c76_112 => ?_) (fun c76_112 => ?_)
          · exact absurd (by simp [own_oth, c2_51, fun q => c2_51 (Eq.symm q)]) c76_112
          · -- pc 76 not taken
            refine go_aloadN (pc' := 80) W111 d0_79 rfl rfl rfl ?_
            refine go_iload (pc' := 82) W111 d0_80 rfl rfl ?_
            refine go_callV (a := b52) (kc := K3) (argsL := [(.int (own_oth x0 x0 x1))]) (rest := []) (pc' := 85) W111 (w28 hw) (w29 hw) (nf_sel W111 (w31 hw)) (w31 hw) (w30 hw) (w2 hw) (w32 hw) f93 (rm3 E.l Z a0 hw b52 (own_oth x0 x0 x1) x0 x1 h92 n0 z101 f192 f292) (by decide) pd1 rfl rfl rfl (nb rfl) (nb rfl) (nb rfl) (nb rfl) d0_82 rfl ?_
            rintro _ T113 h113 ⟨rfl, q113⟩ W113
            replace W113 := W113.sub q113
            show Go E _ (Fm E T113 85 #[.val (.int x0), .val (.int x1), .val (.int x2), .val (.ref b52), .val (.int (1 : Int32)), .val (.int x0), .val (.int x1), .val (.int (own_oth x0 x0 x1))] [(.int (own_oth (own_oth x0 x0 x1) x0 x1))])
            refine go_iload (pc' := 87) W113 d0_85 rfl rfl ?_
            refine go_icmp_ne (pt := 94) (pf := 90) W113 d0_87 (by decide) rfl rfl (fun c87_114 => ?_) (fun c87_114 => ?_)
            · exact absurd (by simp [own_oth, c2_51, fun q => c2_51 (Eq.symm q)]) c87_114
            · -- pc 87 not taken
              refine go_iconst (pc' := 91) (z := 1) W113 d0_90 rfl rfl ?_
              refine go_goto (pc' := 95) W113 d0_91 (by decide) rfl ?_
              exact go_retIW W113 reb100 (t := .boolean) rfl (by simp) rfl d0_95 (nb rfl) (nb rfl) (rfl)
  · -- pc 2 not taken
    refine go_iconst (pc' := 6) (z := 1) W d0_5 rfl rfl ?_
    exact go_retIW W REB (t := .boolean) rfl (by simp) rfl d0_6 (nb rfl) (nb rfl) (rfl)
set_option maxRecDepth 65536 in
theorem comes_1 {Post : Tables → Env → Array Value → State → Outcome → State → Prop} (hpost : ∀ tb e args s v u, (limb_1_1.after args s (.returned v) u = true ∧ limb_1_2.after args s (.returned v) u = true) → ReturnedEndW s (.returned v) u (Jvm.fieldLocs frame_1_writes args s ++ Jvm.arrayLocs frame_1_arrays args s ++ Jvm.staticLocs frame_1_statics s) 16 1152 → Post tb e args s (.returned v) u) :
    ArmFor flags0 classFile x code maxLocals ret World_1 tables_1 room_1 Calls_1 rest_1 Pre_1 Post := by
  intro l hfl _ _ p e ha hc hk s m args below hf hA hF happ hP
  obtain ⟨hcalls, hrest, hpre⟩ := hP
  obtain ⟨-, -, -, hnamed, -, -, -, hat⟩ := (Spec.applies_iff hf).mp happ
  obtain ⟨hg, hn⟩ := and_e (Cond.before_iff.mp (show (Jvm.Cond.and given_1 narrow_1).before args s = true from hpre))
  obtain ⟨hct, g0⟩ := and_e hg
  obtain ⟨a0, g1⟩ := and_e g0
  obtain ⟨a1, g2⟩ := and_e g1
  obtain ⟨v0, v1, v2, rfl⟩ : ∃ v0 v1 v2 : Value, args = #[v0, v1, v2] := by
    have hs : args.size = 3 := by simpa [Cond.value, given_1] using hct
    obtain ⟨L⟩ := args
    match L, hs with
    | [v0, v1, v2], _ => exact ⟨v0, v1, v2, rfl⟩
  have hw := fun d (hd : d ∈ tables_1) => atoms_spec (ws := Jvm.Cond.code x code maxLocals ret :: tables_1) hat d (List.mem_cons_of_mem _ hd)
  have hfit : Fit s := fun {y c} hc i hi => by
    obtain ⟨ha, rfl⟩ := Array.getElem?_eq_some_iff.mp hc
    have q := List.all_eq_true.mp ((Array.all_eq_true_iff_forall_mem.mp hF) _ (Array.getElem_mem ha)) i (List.mem_range.mpr hi)
    simpa [Array.getElem?_eq_getElem hi] using q
  obtain ⟨i0, ei0⟩ := is_v a0
  obtain rfl : v0 = (.int i0) := Option.some.inj ei0
  obtain ⟨i1, ei1⟩ := is_v a1
  obtain rfl : v1 = (.int i1) := Option.some.inj ei1
  obtain ⟨i2, ei2⟩ := is_v g2
  obtain rfl : v2 = (.int i2) := Option.some.inj ei2
  obtain ⟨n, o, h1, h2, h3, _, L, rfl, ⟨rfl, N⟩, hq⟩ := rm0 l s _ hw i0 i1 i2  s.heap s.heap.size (Nat.le_refl _)  tables_1 p e ha hc hk s m _ below hf ((Spec.applies_iff_loose hf).mp happ).1 ⟨rfl, State.Warmed39.refl s, rfl⟩ trivial
  exact ⟨n, _, h1, h2, h3, hpost _ _ _ _ _ _ ⟨Cond.after_iff.mpr rfl, Cond.after_iff.mpr (eq_i res_at (Term.int_eval (1)) rfl)⟩ ⟨hq.1, hq.2.1, hq.2.2.1, (hq.2.2.2.sift fun y hy => Or.inr (N y hy)).mono (by decide) (by decide)⟩⟩
theorem main_1_1 : Claimed_1_1 := comes_1 fun _ _ _ _ _ _ h hF => ⟨h.1, hF⟩
theorem main_1_2 : Claimed_1_2 := comes_1 fun _ _ _ _ _ _ h hF => ⟨h.2, hF⟩
end Jvm.Pilot.@@N@@
namespace Jvm.Pilot.@@N@@
open Jvm Jvm.ClassFile Sem Op Lib Jvm.Free Jvm.Stand Jvm.Pilot.@@N@@.Jvm.D
/-! MADE BY PROGRAM (witnessworld.py) out of the Statement's table words and the real class files: 16 classes; the members and pool entries that the words name. The judged class is class 1, her method 1. -/
namespace start1
open Jvm.ClassFile
def u (s : String) : CpInfo := .utf8 (stringToUtf16 s)
/-- a pool by its gaps: so many unusable entries, then the entry; so many at the end -/
def gap : Nat → List CpInfo → List CpInfo
  | 0, r => r
  | n + 1, r => .unusable :: gap n r
def poolList (es : List (Nat × CpInfo)) (last : Nat) : List CpInfo := es.foldr (fun e r => gap e.1 (e.2 :: r)) (gap last [])
def pool (es : List (Nat × CpInfo)) (last : Nat) : Array CpInfo := ⟨poolList es last⟩
def fileOf (pool : Array CpInfo) (this : Nat) (attrs : Array Attribute := #[]) (ms : Array MethodInfo := #[]) (fl : Nat := 33) (sup : Nat := 0) (ifs : Array Nat := #[]) (fds : Array FieldInfo := #[]) : ClassFile where
  minorVersion := 0
  majorVersion := 65
  constantPool := pool
  accessFlags := fl
  thisClass := this
  superClass := sup
  interfaces := ifs
  fields := fds
  methods := ms
  attributes := attrs
def plain (name : String) (sup : Option ClassId) : Class where
  name := name
  kind := .ordinary
  loader := none
  accessFlags := 33
  super := sup
  interfaces := #[]
  cf := none
  fields := #[]
  methods := #[]
  instanceTypes := #[]
  staticTypes := #[]
  resolved := #[]
  callSites := []
  init := .initialized
  statics := none
  mirror := none

def pool0 : Array CpInfo := pool [(5, u "<init>"), (0, u "()V"), (1, .class_ 10), (1, u "java/lang/Object")] 113

def k0c0 : Code := { maxStack := 0, maxLocals := 1, code := object_method_1_code, exceptionTable := #[], attributes := #[] }
def k0m0 : Method := { name := "<init>", desc := "()V", sig := { parameters := [], returnType := none }, accessFlags := 1, code := some k0c0 }
/-- java/lang/Object -/
def k0 : Class := { plain "java/lang/Object" none with
  accessFlags := 33
  interfaces := #[]
  cf := some (fileOf pool0 8 #[] #[{ accessFlags := 1, nameIndex := 5, descriptorIndex := 6, attributes := #[] }] 33 0 #[] #[])
  fields := #[]
  methods := #[k0m0]
  instanceTypes := #[]
  staticTypes := #[]
  resolved := Array.replicate 124 none
  statics := none }

def pool1 : Array CpInfo := pool [(2, .class_ 4), (1, u "java/lang/Object"), (0, u "<init>"), (0, u "()V"), (0, .class_ 8), (0, u "com/example/hushmediator/hushmediator/problem/Problem$Constraint"), (0, .string 10), (0, u "c"), (0, .methodref 7 12), (0, .nameAndType 5 13), (0, u "(Ljava/lang/String;III[J)V"), (0, .methodref 7 15), (0, .nameAndType 16 17), (0, u "other"), (0, u "(I)I"), (0, .class_ 19), (0, u "com/example/hushmediator/hushmediator/problem/ConstraintOtherPinLaw"), (2, u "law"), (0, u "(III)Z")] 7

def k1m0 : Method := { name := "<init>", desc := "()V", sig := { parameters := [], returnType := none }, accessFlags := 1, code := none }
def k1c1 : Code := { maxStack := 11, maxLocals := 8, code := code, exceptionTable := #[], attributes := #[] }
def k1m1 : Method := { name := "law", desc := "(III)Z", sig := { parameters := [.int, .int, .int], returnType := some .boolean }, accessFlags := 9, code := some k1c1 }
/-- com/example/hushmediator/hushmediator/problem/ConstraintOtherPinLaw -/
def k1 : Class := { plain "com/example/hushmediator/hushmediator/problem/ConstraintOtherPinLaw" (some 0) with
  accessFlags := 49
  interfaces := #[]
  cf := some (fileOf pool1 18 #[] #[{ accessFlags := 1, nameIndex := 5, descriptorIndex := 6, attributes := #[] }, { accessFlags := 9, nameIndex := 22, descriptorIndex := 23, attributes := #[] }] 49 2 #[] #[])
  fields := #[]
  methods := #[k1m0, k1m1]
  instanceTypes := #[]
  staticTypes := #[]
  resolved := Array.replicate 31 none
  statics := none }

def pool2 : Array CpInfo := pool [(1, .methodref 2 3), (0, .class_ 4), (0, .nameAndType 5 6), (0, u "java/lang/Object"), (0, u "<init>"), (0, u "()V"), (0, .fieldref 8 9), (0, .class_ 10), (0, .nameAndType 11 12), (0, u "com/example/hushmediator/hushmediator/problem/Problem$Constraint"), (0, u "name"), (0, u "Ljava/lang/String;"), (0, .fieldref 8 14), (0, .nameAndType 15 16), (0, u "first"), (0, u "I"), (0, .fieldref 8 18), (0, .nameAndType 19 16), (0, u "second"), (0, .fieldref 8 21), (0, .nameAndType 22 16), (0, u "secondSize"), (0, .fieldref 8 24), (0, .nameAndType 25 26), (0, u "costs"), (0, u "[J"), (20, u "(Ljava/lang/String;III[J)V"), (4, u "other"), (0, u "(I)I"), (8, .class_ 63), (0, u "com/example/hushmediator/hushmediator/problem/Problem")] 2

def k2c0 : Code := { maxStack := 2, maxLocals := 6, code := prog_20_method_1_code, exceptionTable := #[], attributes := #[] }
def k2m0 : Method := { name := "<init>", desc := "(Ljava/lang/String;III[J)V", sig := { parameters := [(.object "java/lang/String"), .int, .int, .int, (.array .long)], returnType := none }, accessFlags := 0, code := some k2c0 }
def k2c1 : Code := { maxStack := 2, maxLocals := 2, code := prog_20_method_5_code, exceptionTable := #[], attributes := #[] }
def k2m1 : Method := { name := "other", desc := "(I)I", sig := { parameters := [.int], returnType := some .int }, accessFlags := 1, code := some k2c1 }
/-- com/example/hushmediator/hushmediator/problem/Problem$Constraint -/
def k2 : Class := { plain "com/example/hushmediator/hushmediator/problem/Problem$Constraint" (some 0) with
  accessFlags := 49
  interfaces := #[]
  cf := some (fileOf pool2 8 #[.nestHost 62] #[{ accessFlags := 0, nameIndex := 5, descriptorIndex := 47, attributes := #[] }, { accessFlags := 1, nameIndex := 52, descriptorIndex := 53, attributes := #[] }] 49 2 #[] #[{ accessFlags := 18, nameIndex := 11, descriptorIndex := 12, attributes := #[] }, { accessFlags := 18, nameIndex := 15, descriptorIndex := 16, attributes := #[] }, { accessFlags := 18, nameIndex := 19, descriptorIndex := 16, attributes := #[] }, { accessFlags := 18, nameIndex := 22, descriptorIndex := 16, attributes := #[] }, { accessFlags := 18, nameIndex := 25, descriptorIndex := 26, attributes := #[] }])
  fields := #[{ name := "name", type := (.object "java/lang/String"), accessFlags := 18, slot := 0, constantValue := 0 }, { name := "first", type := .int, accessFlags := 18, slot := 1, constantValue := 0 }, { name := "second", type := .int, accessFlags := 18, slot := 2, constantValue := 0 }, { name := "secondSize", type := .int, accessFlags := 18, slot := 3, constantValue := 0 }, { name := "costs", type := (.array .long), accessFlags := 18, slot := 4, constantValue := 0 }]
  methods := #[k2m0, k2m1]
  instanceTypes := #[(.object "java/lang/String"), .int, .int, .int, (.array .long)]
  staticTypes := #[]
  resolved := Array.replicate 66 none
  statics := none }

def pool3 : Array CpInfo := pool [(1, .class_ 2), (0, u "java/io/Serializable"), (0, .class_ 4), (0, u "java/lang/Object")] 2

/-- java/io/Serializable -/
def k3 : Class := { plain "java/io/Serializable" (some 0) with
  accessFlags := 1537
  interfaces := #[]
  cf := some (fileOf pool3 1 #[] #[] 1537 3 #[] #[])
  fields := #[]
  methods := #[]
  instanceTypes := #[]
  staticTypes := #[]
  resolved := Array.replicate 7 none
  statics := none }

def pool4 : Array CpInfo := pool [(1, .class_ 2), (0, u "java/lang/Comparable"), (0, .class_ 4), (0, u "java/lang/Object")] 7

/-- java/lang/Comparable -/
def k4 : Class := { plain "java/lang/Comparable" (some 0) with
  accessFlags := 1537
  interfaces := #[]
  cf := some (fileOf pool4 1 #[] #[] 1537 3 #[] #[])
  fields := #[]
  methods := #[]
  instanceTypes := #[]
  staticTypes := #[]
  resolved := Array.replicate 12 none
  statics := none }

def pool5 : Array CpInfo := pool [(2, .class_ 4), (1, u "java/lang/CharSequence"), (42, .class_ 48), (0, u "java/lang/CharSequence$1CodePointIterator"), (10, .class_ 60), (0, u "java/lang/CharSequence$1CharIterator"), (5, .class_ 67), (0, u "java/lang/Object")] 63

/-- java/lang/CharSequence -/
def k5 : Class := { plain "java/lang/CharSequence" (some 0) with
  accessFlags := 1537
  interfaces := #[]
  cf := some (fileOf pool5 2 #[.nestMembers #[47, 59]] #[] 1537 66 #[] #[])
  fields := #[]
  methods := #[]
  instanceTypes := #[]
  staticTypes := #[]
  resolved := Array.replicate 131 none
  statics := none }

def pool6 : Array CpInfo := pool [(1, .class_ 2), (0, u "java/lang/constant/Constable"), (0, .class_ 4), (0, u "java/lang/Object")] 6

/-- java/lang/constant/Constable -/
def k6 : Class := { plain "java/lang/constant/Constable" (some 0) with
  accessFlags := 1537
  interfaces := #[]
  cf := some (fileOf pool6 1 #[] #[] 1537 3 #[] #[])
  fields := #[]
  methods := #[]
  instanceTypes := #[]
  staticTypes := #[]
  resolved := Array.replicate 11 none
  statics := none }

def pool7 : Array CpInfo := pool [(1, .class_ 2), (0, u "java/lang/constant/ConstantDesc"), (0, .class_ 4), (0, u "java/lang/Object")] 32

/-- java/lang/constant/ConstantDesc -/
def k7 : Class := { plain "java/lang/constant/ConstantDesc" (some 0) with
  accessFlags := 1537
  interfaces := #[]
  cf := some (fileOf pool7 1 #[] #[] 1537 3 #[] #[])
  fields := #[]
  methods := #[]
  instanceTypes := #[]
  staticTypes := #[]
  resolved := Array.replicate 37 none
  statics := none }

def pool8 : Array CpInfo := pool [(2, .class_ 4), (1, u "java/lang/Object"), (0, u "<init>"), (0, u "()V"), (3, .class_ 12), (1, u "java/lang/String"), (0, u "value"), (0, u "[B"), (2, u "coder"), (0, u "B"), (2, u "hash"), (0, u "I"), (2, u "hashIsZero"), (0, u "Z"), (13, u "COMPACT_STRINGS"), (534, .class_ 576), (0, u "java/lang/CharSequence"), (22, u "CASE_INSENSITIVE_ORDER"), (0, u "Ljava/util/Comparator;"), (500, u "serialPersistentFields"), (0, u "[Ljava/io/ObjectStreamField;"), (0, .class_ 1104), (0, u "java/lang/String$CaseInsensitiveComparator"), (1, .class_ 1107), (0, u "java/io/Serializable"), (0, .class_ 1109), (0, u "java/lang/Comparable"), (0, .class_ 1111), (0, u "java/lang/constant/Constable"), (0, .class_ 1113), (0, u "java/lang/constant/ConstantDesc"), (2, u "serialVersionUID"), (0, u "J"), (3, u "REPL"), (0, u "C"), (2, u "LATIN1"), (1, u "UTF16")] 323

def k8m0 : Method := { name := "<init>", desc := "()V", sig := { parameters := [], returnType := none }, accessFlags := 1, code := none }
/-- java/lang/String -/
def k8 : Class := { plain "java/lang/String" (some 0) with
  accessFlags := 49
  interfaces := #[3, 4, 5, 6, 7]
  cf := some (fileOf pool8 10 #[.nestMembers #[1103]] #[{ accessFlags := 1, nameIndex := 5, descriptorIndex := 6, attributes := #[] }] 49 2 #[1106, 1108, 575, 1110, 1112] #[{ accessFlags := 18, nameIndex := 13, descriptorIndex := 14, attributes := #[] }, { accessFlags := 18, nameIndex := 17, descriptorIndex := 18, attributes := #[] }, { accessFlags := 2, nameIndex := 21, descriptorIndex := 22, attributes := #[] }, { accessFlags := 2, nameIndex := 25, descriptorIndex := 26, attributes := #[] }, { accessFlags := 26, nameIndex := 1116, descriptorIndex := 1117, attributes := #[] }, { accessFlags := 24, nameIndex := 40, descriptorIndex := 26, attributes := #[] }, { accessFlags := 26, nameIndex := 1101, descriptorIndex := 1102, attributes := #[] }, { accessFlags := 26, nameIndex := 1121, descriptorIndex := 1122, attributes := #[] }, { accessFlags := 25, nameIndex := 599, descriptorIndex := 600, attributes := #[] }, { accessFlags := 24, nameIndex := 1125, descriptorIndex := 18, attributes := #[] }, { accessFlags := 24, nameIndex := 1127, descriptorIndex := 18, attributes := #[] }])
  fields := #[{ name := "value", type := (.array .byte), accessFlags := 18, slot := 0, constantValue := 0 }, { name := "coder", type := .byte, accessFlags := 18, slot := 1, constantValue := 0 }, { name := "hash", type := .int, accessFlags := 2, slot := 2, constantValue := 0 }, { name := "hashIsZero", type := .boolean, accessFlags := 2, slot := 3, constantValue := 0 }, { name := "serialVersionUID", type := .long, accessFlags := 26, slot := 0, constantValue := 0 }, { name := "COMPACT_STRINGS", type := .boolean, accessFlags := 24, slot := 1, constantValue := 0 }, { name := "serialPersistentFields", type := (.array (.object "java/io/ObjectStreamField")), accessFlags := 26, slot := 2, constantValue := 0 }, { name := "REPL", type := .char, accessFlags := 26, slot := 3, constantValue := 0 }, { name := "CASE_INSENSITIVE_ORDER", type := (.object "java/util/Comparator"), accessFlags := 25, slot := 4, constantValue := 0 }, { name := "LATIN1", type := .byte, accessFlags := 24, slot := 5, constantValue := 0 }, { name := "UTF16", type := .byte, accessFlags := 24, slot := 6, constantValue := 0 }]
  methods := #[k8m0]
  instanceTypes := #[(.array .byte), .byte, .int, .boolean]
  staticTypes := #[.long, .boolean, (.array (.object "java/io/ObjectStreamField")), .char, (.object "java/util/Comparator"), .byte, .byte]
  resolved := Array.replicate 1451 none
  statics := none }

def pool9 : Array CpInfo := pool [(1, u "java/lang/Cloneable"), (0, .class_ 1), (0, u "java/lang/Object"), (0, .class_ 3)] 3

/-- java/lang/Cloneable -/
def k9 : Class := { plain "java/lang/Cloneable" (some 0) with
  accessFlags := 1537
  interfaces := #[]
  cf := some (fileOf pool9 2 #[] #[] 1537 4 #[] #[])
  fields := #[]
  methods := #[]
  instanceTypes := #[]
  staticTypes := #[]
  resolved := Array.replicate 8 none
  statics := none }

/-- the primitive byte -/
def k10 : Class := { plain "byte" none with kind := .primitive 'B', accessFlags := 0x411 }
/-- [B -/
def k11 : Class := { plain "[B" (some 0) with kind := .array 10 .byte, interfaces := #[9, 3], accessFlags := 1041 }

/-- the primitive int -/
def k12 : Class := { plain "int" none with kind := .primitive 'I', accessFlags := 0x411 }
/-- [I -/
def k13 : Class := { plain "[I" (some 0) with kind := .array 12 .int, interfaces := #[9, 3], accessFlags := 1041 }

/-- the primitive long -/
def k14 : Class := { plain "long" none with kind := .primitive 'J', accessFlags := 0x411 }
/-- [J -/
def k15 : Class := { plain "[J" (some 0) with kind := .array 14 .long, interfaces := #[9, 3], accessFlags := 1041 }

def heap : Heap := #[]
def classes : Array Class := #[k0, k1, k2, k3, k4, k5, k6, k7, k8, k9, k10, k11, k12, k13, k14, k15]
def interned : List (Array UInt16 × Addr) := []
def slotsUsed : Nat := 0
def theMethod : MethodId := ⟨1, 1⟩
def args0 : Array Value := #[.int 5, .int 3, .int 2]
def aboutOver (below : List Frame) : State where
  vm := { classes := classes, interned := interned.toArray }
  heap := heap
  slotsUsed := slotsUsed
  threads := #[{ frames := .invoking theMethod args0 :: below }]
def below0 : List Frame := [.native { method := ⟨0, 0⟩, args := #[] }]
def about1 : State := aboutOver below0
def p0 : Program := .bare "" "" ""
def e0 : Env := launch0.env 0 0 0
theorem w_frames : about1.frames = Frame.invoking theMethod args0 :: below0 := rfl
set_option maxRecDepth 65536 in
theorem w_args : argsFit about1.vm theMethod args0 = true := by decide +kernel
set_option maxRecDepth 65536 in
theorem w_heap : heapFits about1 = true := by decide +kernel
set_option maxRecDepth 65536 in
theorem w_runnable : about1.curStatus? = some .runnable := by decide +kernel
set_option maxRecDepth 65536 in
theorem w_alone : about1.alone = true := by decide +kernel
set_option maxRecDepth 65536 in
theorem w_named : about1.methodNamed? x = some theMethod := by decide +kernel
set_option maxRecDepth 65536 in
theorem w_hears : about1.hears theMethod below0 = true := by decide +kernel
set_option maxRecDepth 65536 in
theorem w_ripe : about1.ripe theMethod args0 below0 = true := by decide +kernel
theorem w_running : about1.status = .running := rfl
set_option maxRecDepth 65536 in
theorem w_room : about1.hasRoom e0.platform room_1 = true :=
  launch0.hasRoom_least _ room_1 (by decide +kernel) (by decide +kernel) (by decide +kernel) (by decide +kernel) (by decide +kernel) (by decide +kernel)
theorem allAtoms_all (ts : List Jvm.Cond) (a : Array Jvm.Value) (st : Jvm.State) : (allAtoms ts).before a st = ts.all (fun c => c.before a st) := by
  induction ts with
  | nil => rfl
  | cons c t ih =>
    show (Jvm.Cond.and c (allAtoms t)).before a st = _
    rw [Jvm.Cond.before_and, ih, List.all_cons]
def words1 : List Jvm.Cond := Jvm.Cond.code x code maxLocals ret :: tables_1
/-- a 'code' word, met by the world's own term for the bytes: nothing is compared byte by byte -/
theorem code_word {y : MethodName} {bytes : ByteArray} {mx : Nat} {rt : Option FieldType} {a : Array Value} {s : State} {m : MethodId} {meth : Method} {c : Code} (h1 : s.methodNamed? y = some m) (h2 : s.vm.method? m = some meth) (h3 : meth.code = some c) (h4 : c.code = bytes)
    (h5 : (c.maxLocals == mx && c.exceptionTable.isEmpty && decide (c.maxStack ≤ mostOperands) && decide (meth.sig.returnType = rt) && !meth.locks && decide (parseMethodDescriptor y.desc = some meth.sig)) = true) : (Jvm.Cond.code y bytes mx rt).before a s = true := by
  simp only [Bool.and_eq_true, beq_iff_eq, Bool.not_eq_true', decide_eq_true_eq] at h5
  obtain ⟨⟨⟨⟨⟨g1, g2⟩, g3⟩, g4⟩, g5⟩, g6⟩ := h5
  simp [Cond.before, Cond.holds, Cond.value, h1, h2, h3, h4, g1, g2, g3, g4, g5, g6]
def isCode : Jvm.Cond → Bool
  | .code _ _ _ _ => true
  | _ => false
theorem all_split {L : List Jvm.Cond} {P : Jvm.Cond → Bool} (h1 : L.all (fun c => isCode c || P c) = true) (h2 : ∀ c ∈ L.filter isCode, P c = true) : L.all P = true := by
  refine List.all_eq_true.mpr fun c hc => ?_
  have h := List.all_eq_true.mp h1 c hc
  rcases Bool.eq_false_or_eq_true (isCode c) with hi | hi
  · exact h2 c (List.mem_filter.mpr ⟨hc, hi⟩)
  · simpa [hi] using h
set_option maxRecDepth 65536 in
theorem w_c0 : (Jvm.Cond.code x code maxLocals ret).before args0 about1 = true := code_word (m := ⟨1, 1⟩) (meth := k1m1) (c := k1c1) (by decide +kernel) rfl rfl rfl (by decide +kernel)
set_option maxRecDepth 65536 in
theorem w_c1 : (Jvm.Cond.code ({ cls := "com/example/hushmediator/hushmediator/problem/Problem$Constraint", name := "<init>", desc := "(Ljava/lang/String;III[J)V" } : Jvm.MethodName) prog_20_method_1_code (6 : Nat) (Option.none : Option Jvm.ClassFile.FieldType)).before args0 about1 = true := code_word (m := ⟨2, 0⟩) (meth := k2m0) (c := k2c0) (by decide +kernel) rfl rfl rfl (by decide +kernel)
set_option maxRecDepth 65536 in
theorem w_c2 : (Jvm.Cond.code ({ cls := "java/lang/Object", name := "<init>", desc := "()V" } : Jvm.MethodName) object_method_1_code (1 : Nat) (Option.none : Option Jvm.ClassFile.FieldType)).before args0 about1 = true := code_word (m := ⟨0, 0⟩) (meth := k0m0) (c := k0c0) (by decide +kernel) rfl rfl rfl (by decide +kernel)
set_option maxRecDepth 65536 in
theorem w_c3 : (Jvm.Cond.code ({ cls := "com/example/hushmediator/hushmediator/problem/Problem$Constraint", name := "other", desc := "(I)I" } : Jvm.MethodName) prog_20_method_5_code (2 : Nat) (Option.some Jvm.ClassFile.FieldType.int)).before args0 about1 = true := code_word (m := ⟨2, 1⟩) (meth := k2m1) (c := k2c1) (by decide +kernel) rfl rfl rfl (by decide +kernel)
def codes1 : List Jvm.Cond := [Jvm.Cond.code x code maxLocals ret, Jvm.Cond.code ({ cls := "com/example/hushmediator/hushmediator/problem/Problem$Constraint", name := "<init>", desc := "(Ljava/lang/String;III[J)V" } : Jvm.MethodName) prog_20_method_1_code (6 : Nat) (Option.none : Option Jvm.ClassFile.FieldType), Jvm.Cond.code ({ cls := "java/lang/Object", name := "<init>", desc := "()V" } : Jvm.MethodName) object_method_1_code (1 : Nat) (Option.none : Option Jvm.ClassFile.FieldType), Jvm.Cond.code ({ cls := "com/example/hushmediator/hushmediator/problem/Problem$Constraint", name := "other", desc := "(I)I" } : Jvm.MethodName) prog_20_method_5_code (2 : Nat) (Option.some Jvm.ClassFile.FieldType.int)]
set_option maxRecDepth 65536 in
theorem codes_eq : words1.filter isCode = codes1 := rfl
theorem w_codes : ∀ c ∈ words1.filter isCode, c.before args0 about1 = true := by
  rw [codes_eq]
  intro c hc
  simp only [codes1, List.mem_cons, List.not_mem_nil, or_false] at hc
  rcases hc with rfl | rfl | rfl | rfl
  · exact w_c0
  · exact w_c1
  · exact w_c2
  · exact w_c3
set_option maxRecDepth 65536 in
theorem w_t1 : (words1.take 24).all (fun c => isCode c || c.before args0 about1) = true := by decide +kernel
set_option maxRecDepth 65536 in
theorem w_t2 : (words1.drop 24).all (fun c => isCode c || c.before args0 about1) = true := by decide +kernel
theorem w_tables : (allAtoms (Jvm.Cond.code x code maxLocals ret :: tables_1)).before args0 about1 = true := by
  rw [allAtoms_all]
  show words1.all (fun c => c.before args0 about1) = true
  refine all_split ?_ w_codes
  rw [← List.take_append_drop 24 words1, List.all_append, w_t1, w_t2]
  rfl
set_option maxRecDepth 65536 in
theorem w_case : (Jvm.Cond.and given_1 narrow_1).before args0 about1 = true := by decide +kernel
theorem w_applies : (headSpec (Jvm.Cond.code x code maxLocals ret :: tables_1) room_1).applies x e0.platform about1 = true :=
  (Spec.applies_iff w_frames).mpr ⟨w_running, w_runnable, w_alone, w_named, w_hears, w_ripe, w_room, w_tables⟩
theorem atStart : AtStart classFile x code maxLocals ret World_1 tables_1 room_1 Calls_1 rest_1 Pre_1 launch0 p0 e0 about1 theMethod args0 below0 :=
  ⟨lists_1, trivial, launch0.admits_env _ _ _, launch0.least_env, fairChoices_fair.cas, fairChoices_fair.clock, w_frames, w_args, w_heap, w_applies, trivial, trivial, w_case⟩
end start1
theorem witness_1 : WitnessClaimed_1 := ⟨start1.p0, start1.e0, start1.about1, start1.theMethod, start1.args0, start1.below0, start1.atStart⟩
end Jvm.Pilot.@@N@@
