import JvmDerived
import JvmDerived.Pilot.@@N@@Statement
import JvmDerived.Pilot.@@N@@Code
set_option linter.unusedVariables false
set_option linter.unusedSimpArgs false
@@BLOCK:NumsL.lean.txt@@
namespace Jvm.OwnKit
open Sem ClassFile Op Lib Jvm.Stand Jvm.Free Jvm.LawKit Jvm.RoadKit
/-- from t the invocation runs to its end, and Post holds there -/
def Goes (p : Program) (e : Env) (below : List Frame) (Post : Outcome → State → Prop) (t : State) : Prop :=
  ∃ s₂ o, Steps p.tables e below t s₂ ∧ s₂.status = .running ∧ Ended s₂ below o ∧ Post o s₂
def i2c (x : Int32) : Int32 := x.toUInt32.toUInt16.toUInt32.toInt32
def i2b (x : Int32) : Int32 := x.toInt8.toInt32
section Goes
variable {p : Program} {e : Env} {below : List Frame} {Post : Outcome → State → Prop} {T T' t t' : State} {m : MethodId} {c : Code} {pc : Nat} {ls : Array Slot} {st rest : List Value}
theorem Goes.go (st : ∀ tg, Steps p.tables e below t' tg → Steps p.tables e below t tg) (h : Goes p e below Post t') : Goes p e below Post t := by
  obtain ⟨s₂, o, h1, h2⟩ := h
  exact ⟨s₂, o, st _ h1, h2⟩
theorem Goes.run (st : Steps p.tables e below t t') (h : Goes p e below Post t') : Goes p e below Post t := by
  obtain ⟨s₂, o, h1, h2⟩ := h
  exact ⟨s₂, o, st.trans h1, h2⟩
theorem Goes.cast {g g' : JFrame} (q : g = g') (h : Goes p e below Post (T.setTop g')) : Goes p e below Post (T.setTop g) := q ▸ h
theorem zeq {x : Int32} (h : x = 0) : ifCond.holds .eq x = true ∧ ifCond.holds .ne x = false := by subst h; exact ⟨rfl, rfl⟩
theorem zne {x : Int32} (h : ¬ x = 0) : ifCond.holds .eq x = false ∧ ifCond.holds .ne x = true := by
  have q : (x == 0) = false := by simp [h]
  exact ⟨q, by show (!(x == 0)) = true; rw [q]; rfl⟩
theorem zlt {x : Int32} (h : x < 0) : ifCond.holds .lt x = true ∧ ifCond.holds .ge x = false := ⟨decide_eq_true h, decide_eq_false (Int32.not_le.mpr h)⟩
theorem znl {x : Int32} (h : ¬ x < 0) : ifCond.holds .lt x = false ∧ ifCond.holds .ge x = true := ⟨decide_eq_false h, decide_eq_true (Int32.not_lt.mp h)⟩
theorem zgt {x : Int32} (h : 0 < x) : ifCond.holds .gt x = true ∧ ifCond.holds .le x = false := ⟨decide_eq_true h, decide_eq_false (Int32.not_le.mpr h)⟩
theorem zng {x : Int32} (h : ¬ 0 < x) : ifCond.holds .gt x = false ∧ ifCond.holds .le x = true := ⟨decide_eq_false h, decide_eq_true (Int32.not_lt.mp h)⟩
namespace G
theorem iload (h : At T m c below) (hx : p.tables.exec = Jvm.exec) (pc' : Nat) {k : Nat} {v : Int32} (hd : decode c.code pc = .ok (.iload k, 2)) (hl : ls[k]? = some (.val (.int v))) (hp : pc + 2 = pc')
    (K : Goes p e below Post (T.setTop (mkF m pc' ls (.int v :: st)))) : Goes p e below Post (T.setTop (mkF m pc ls st)) := by
  subst hp; exact Goes.go (fun _ k => XS.iload h hx rfl hd hl k) K
theorem iloadN (h : At T m c below) (hx : p.tables.exec = Jvm.exec) (pc' : Nat) {k : Fin 4} {v : Int32} (hd : decode c.code pc = .ok (.iload_n k, 1)) (hl : ls[k.val]? = some (.val (.int v))) (hp : pc + 1 = pc')
    (K : Goes p e below Post (T.setTop (mkF m pc' ls (.int v :: st)))) : Goes p e below Post (T.setTop (mkF m pc ls st)) := by
  subst hp; exact Goes.go (fun _ k => XS.iloadN h hx rfl hd hl k) K
theorem lload (h : At T m c below) (hx : p.tables.exec = Jvm.exec) (pc' : Nat) {k : Nat} {v : Int64} (hd : decode c.code pc = .ok (.lload k, 2)) (hl : ls[k]? = some (.val (.long v))) (hp : pc + 2 = pc')
    (K : Goes p e below Post (T.setTop (mkF m pc' ls (.long v :: st)))) : Goes p e below Post (T.setTop (mkF m pc ls st)) := by
  subst hp; exact Goes.go (fun _ k => XT.lload h hx rfl hd hl k) K
theorem lloadN (h : At T m c below) (hx : p.tables.exec = Jvm.exec) (pc' : Nat) {k : Fin 4} {v : Int64} (hd : decode c.code pc = .ok (.lload_n k, 1)) (hl : ls[k.val]? = some (.val (.long v))) (hp : pc + 1 = pc')
    (K : Goes p e below Post (T.setTop (mkF m pc' ls (.long v :: st)))) : Goes p e below Post (T.setTop (mkF m pc ls st)) := by
  subst hp; exact Goes.go (fun _ k => XT.lloadN h hx rfl hd hl k) K
theorem aload (h : At T m c below) (hx : p.tables.exec = Jvm.exec) (pc' : Nat) {k : Nat} {v : Value} (hd : decode c.code pc = .ok (.aload k, 2)) (hl : ls[k]? = some (.val v)) (hv : v.isRef = true) (hp : pc + 2 = pc')
    (K : Goes p e below Post (T.setTop (mkF m pc' ls (v :: st)))) : Goes p e below Post (T.setTop (mkF m pc ls st)) := by
  subst hp; exact Goes.go (fun _ k => XS.aload h hx rfl hd hl hv k) K
theorem aloadN (h : At T m c below) (hx : p.tables.exec = Jvm.exec) (pc' : Nat) {k : Fin 4} {v : Value} (hd : decode c.code pc = .ok (.aload_n k, 1)) (hl : ls[k.val]? = some (.val v)) (hv : v.isRef = true) (hp : pc + 1 = pc')
    (K : Goes p e below Post (T.setTop (mkF m pc' ls (v :: st)))) : Goes p e below Post (T.setTop (mkF m pc ls st)) := by
  subst hp; exact Goes.go (fun _ k => XS.aloadN h hx rfl hd hl hv k) K
theorem iconst (h : At T m c below) (hx : p.tables.exec = Jvm.exec) (pc' : Nat) (z : Int32) {i : Int} (hd : decode c.code pc = .ok (.iconst i, 1)) (hz : Int32.ofInt i = z) (hp : pc + 1 = pc')
    (K : Goes p e below Post (T.setTop (mkF m pc' ls (.int z :: st)))) : Goes p e below Post (T.setTop (mkF m pc ls st)) := by
  subst hp hz; exact Goes.go (fun _ k => XS.iconst h hx rfl hd k) K
theorem bipush (h : At T m c below) (hx : p.tables.exec = Jvm.exec) (pc' : Nat) (z : Int32) {i : Int} (hd : decode c.code pc = .ok (.bipush i, 2)) (hz : (Int8.ofInt i).toInt32 = z) (hp : pc + 2 = pc')
    (K : Goes p e below Post (T.setTop (mkF m pc' ls (.int z :: st)))) : Goes p e below Post (T.setTop (mkF m pc ls st)) := by
  subst hp hz; exact Goes.go (fun _ k => XS.bipush h hx rfl hd k) K
theorem sipush (h : At T m c below) (hx : p.tables.exec = Jvm.exec) (pc' : Nat) (z : Int32) {i : Int} (hd : decode c.code pc = .ok (.sipush i, 3)) (hz : (Int16.ofInt i).toInt32 = z) (hp : pc + 3 = pc')
    (K : Goes p e below Post (T.setTop (mkF m pc' ls (.int z :: st)))) : Goes p e below Post (T.setTop (mkF m pc ls st)) := by
  subst hp hz; exact Goes.go (fun _ k => XS.sipush h hx rfl hd k) K
theorem lconst (h : At T m c below) (hx : p.tables.exec = Jvm.exec) (pc' : Nat) (z : Int64) {i : Fin 2} (hd : decode c.code pc = .ok (.lconst i, 1)) (hz : Int64.ofNat i = z) (hp : pc + 1 = pc')
    (K : Goes p e below Post (T.setTop (mkF m pc' ls (.long z :: st)))) : Goes p e below Post (T.setTop (mkF m pc ls st)) := by
  subst hp hz; exact Goes.go (fun _ k => XT.lconst h hx rfl hd k) K
theorem aconstNull (h : At T m c below) (hx : p.tables.exec = Jvm.exec) (pc' : Nat)  (hd : decode c.code pc = .ok (.aconst_null, 1)) (hp : pc + 1 = pc')
    (K : Goes p e below Post (T.setTop (mkF m pc' ls (.null :: st)))) : Goes p e below Post (T.setTop (mkF m pc ls st)) := by
  subst hp; exact Goes.go (fun _ k => XS.aconstNull h hx rfl hd  k) K
theorem iadd (h : At T m c below) (hx : p.tables.exec = Jvm.exec) (pc' : Nat) {x y : Int32} (hd : decode c.code pc = .ok (.iadd, 1)) (hp : pc + 1 = pc')
    (K : Goes p e below Post (T.setTop (mkF m pc' ls (.int (x + y) :: st)))) : Goes p e below Post (T.setTop (mkF m pc ls (.int y :: .int x :: st))) := by
  subst hp; exact Goes.go (fun _ k => XS.iadd h hx rfl hd rfl k) K
theorem isub (h : At T m c below) (hx : p.tables.exec = Jvm.exec) (pc' : Nat) {x y : Int32} (hd : decode c.code pc = .ok (.isub, 1)) (hp : pc + 1 = pc')
    (K : Goes p e below Post (T.setTop (mkF m pc' ls (.int (x - y) :: st)))) : Goes p e below Post (T.setTop (mkF m pc ls (.int y :: .int x :: st))) := by
  subst hp; exact Goes.go (fun _ k => XS.isub h hx rfl hd rfl k) K
theorem imul (h : At T m c below) (hx : p.tables.exec = Jvm.exec) (pc' : Nat) {x y : Int32} (hd : decode c.code pc = .ok (.imul, 1)) (hp : pc + 1 = pc')
    (K : Goes p e below Post (T.setTop (mkF m pc' ls (.int (x * y) :: st)))) : Goes p e below Post (T.setTop (mkF m pc ls (.int y :: .int x :: st))) := by
  subst hp; exact Goes.go (fun _ k => XS.imul h hx rfl hd rfl k) K
theorem iand (h : At T m c below) (hx : p.tables.exec = Jvm.exec) (pc' : Nat) {x y : Int32} (hd : decode c.code pc = .ok (.iand, 1)) (hp : pc + 1 = pc')
    (K : Goes p e below Post (T.setTop (mkF m pc' ls (.int (x &&& y) :: st)))) : Goes p e below Post (T.setTop (mkF m pc ls (.int y :: .int x :: st))) := by
  subst hp; exact Goes.go (fun _ k => XS.iand h hx rfl hd rfl k) K
theorem ior (h : At T m c below) (hx : p.tables.exec = Jvm.exec) (pc' : Nat) {x y : Int32} (hd : decode c.code pc = .ok (.ior, 1)) (hp : pc + 1 = pc')
    (K : Goes p e below Post (T.setTop (mkF m pc' ls (.int (x ||| y) :: st)))) : Goes p e below Post (T.setTop (mkF m pc ls (.int y :: .int x :: st))) := by
  subst hp; exact Goes.go (fun _ k => XT.ior h hx rfl hd rfl k) K
theorem ixor (h : At T m c below) (hx : p.tables.exec = Jvm.exec) (pc' : Nat) {x y : Int32} (hd : decode c.code pc = .ok (.ixor, 1)) (hp : pc + 1 = pc')
    (K : Goes p e below Post (T.setTop (mkF m pc' ls (.int (x ^^^ y) :: st)))) : Goes p e below Post (T.setTop (mkF m pc ls (.int y :: .int x :: st))) := by
  subst hp; exact Goes.go (fun _ k => XT.ixor h hx rfl hd rfl k) K
theorem ishl (h : At T m c below) (hx : p.tables.exec = Jvm.exec) (pc' : Nat) {x y : Int32} (hd : decode c.code pc = .ok (.ishl, 1)) (hp : pc + 1 = pc')
    (K : Goes p e below Post (T.setTop (mkF m pc' ls (.int (x <<< (y &&& 31)) :: st)))) : Goes p e below Post (T.setTop (mkF m pc ls (.int y :: .int x :: st))) := by
  subst hp; exact Goes.go (fun _ k => XT.ishl h hx rfl hd rfl k) K
theorem ishr (h : At T m c below) (hx : p.tables.exec = Jvm.exec) (pc' : Nat) {x y : Int32} (hd : decode c.code pc = .ok (.ishr, 1)) (hp : pc + 1 = pc')
    (K : Goes p e below Post (T.setTop (mkF m pc' ls (.int (x >>> (y &&& 31)) :: st)))) : Goes p e below Post (T.setTop (mkF m pc ls (.int y :: .int x :: st))) := by
  subst hp; exact Goes.go (fun _ k => XT.ishr h hx rfl hd rfl k) K
theorem iushr (h : At T m c below) (hx : p.tables.exec = Jvm.exec) (pc' : Nat) {x y : Int32} (hd : decode c.code pc = .ok (.iushr, 1)) (hp : pc + 1 = pc')
    (K : Goes p e below Post (T.setTop (mkF m pc' ls (.int (XT.ushr x y) :: st)))) : Goes p e below Post (T.setTop (mkF m pc ls (.int y :: .int x :: st))) := by
  subst hp; exact Goes.go (fun _ k => XT.iushr h hx rfl hd rfl k) K
theorem ladd (h : At T m c below) (hx : p.tables.exec = Jvm.exec) (pc' : Nat) {x y : Int64} (hd : decode c.code pc = .ok (.ladd, 1)) (hp : pc + 1 = pc')
    (K : Goes p e below Post (T.setTop (mkF m pc' ls (.long (x + y) :: st)))) : Goes p e below Post (T.setTop (mkF m pc ls (.long y :: .long x :: st))) := by
  subst hp; exact Goes.go (fun _ k => XT.ladd h hx rfl hd rfl k) K
theorem lsub (h : At T m c below) (hx : p.tables.exec = Jvm.exec) (pc' : Nat) {x y : Int64} (hd : decode c.code pc = .ok (.lsub, 1)) (hp : pc + 1 = pc')
    (K : Goes p e below Post (T.setTop (mkF m pc' ls (.long (x - y) :: st)))) : Goes p e below Post (T.setTop (mkF m pc ls (.long y :: .long x :: st))) := by
  subst hp; exact Goes.go (fun _ k => XT.lsub h hx rfl hd rfl k) K
theorem lmul (h : At T m c below) (hx : p.tables.exec = Jvm.exec) (pc' : Nat) {x y : Int64} (hd : decode c.code pc = .ok (.lmul, 1)) (hp : pc + 1 = pc')
    (K : Goes p e below Post (T.setTop (mkF m pc' ls (.long (x * y) :: st)))) : Goes p e below Post (T.setTop (mkF m pc ls (.long y :: .long x :: st))) := by
  subst hp; exact Goes.go (fun _ k => XT.lmul h hx rfl hd rfl k) K
theorem land (h : At T m c below) (hx : p.tables.exec = Jvm.exec) (pc' : Nat) {x y : Int64} (hd : decode c.code pc = .ok (.land, 1)) (hp : pc + 1 = pc')
    (K : Goes p e below Post (T.setTop (mkF m pc' ls (.long (x &&& y) :: st)))) : Goes p e below Post (T.setTop (mkF m pc ls (.long y :: .long x :: st))) := by
  subst hp; exact Goes.go (fun _ k => XT.land h hx rfl hd rfl k) K
theorem lor (h : At T m c below) (hx : p.tables.exec = Jvm.exec) (pc' : Nat) {x y : Int64} (hd : decode c.code pc = .ok (.lor, 1)) (hp : pc + 1 = pc')
    (K : Goes p e below Post (T.setTop (mkF m pc' ls (.long (x ||| y) :: st)))) : Goes p e below Post (T.setTop (mkF m pc ls (.long y :: .long x :: st))) := by
  subst hp; exact Goes.go (fun _ k => XT.lor h hx rfl hd rfl k) K
theorem lxor (h : At T m c below) (hx : p.tables.exec = Jvm.exec) (pc' : Nat) {x y : Int64} (hd : decode c.code pc = .ok (.lxor, 1)) (hp : pc + 1 = pc')
    (K : Goes p e below Post (T.setTop (mkF m pc' ls (.long (x ^^^ y) :: st)))) : Goes p e below Post (T.setTop (mkF m pc ls (.long y :: .long x :: st))) := by
  subst hp; exact Goes.go (fun _ k => XT.lxor h hx rfl hd rfl k) K
theorem lshl (h : At T m c below) (hx : p.tables.exec = Jvm.exec) (pc' : Nat) {x : Int64} {y : Int32} (hd : decode c.code pc = .ok (.lshl, 1)) (hp : pc + 1 = pc')
    (K : Goes p e below Post (T.setTop (mkF m pc' ls (.long (x <<< (y.toInt64 &&& 63)) :: st)))) : Goes p e below Post (T.setTop (mkF m pc ls (.int y :: .long x :: st))) := by
  subst hp; exact Goes.go (fun _ k => XT.lshl h hx rfl hd rfl k) K
theorem lshr (h : At T m c below) (hx : p.tables.exec = Jvm.exec) (pc' : Nat) {x : Int64} {y : Int32} (hd : decode c.code pc = .ok (.lshr, 1)) (hp : pc + 1 = pc')
    (K : Goes p e below Post (T.setTop (mkF m pc' ls (.long (x >>> (y.toInt64 &&& 63)) :: st)))) : Goes p e below Post (T.setTop (mkF m pc ls (.int y :: .long x :: st))) := by
  subst hp; exact Goes.go (fun _ k => XT.lshr h hx rfl hd rfl k) K
theorem lushr (h : At T m c below) (hx : p.tables.exec = Jvm.exec) (pc' : Nat) {x : Int64} {y : Int32} (hd : decode c.code pc = .ok (.lushr, 1)) (hp : pc + 1 = pc')
    (K : Goes p e below Post (T.setTop (mkF m pc' ls (.long (XT.ushrL x y) :: st)))) : Goes p e below Post (T.setTop (mkF m pc ls (.int y :: .long x :: st))) := by
  subst hp; exact Goes.go (fun _ k => XT.lushr h hx rfl hd rfl k) K
theorem lcmp (h : At T m c below) (hx : p.tables.exec = Jvm.exec) (pc' : Nat) {x y : Int64} (hd : decode c.code pc = .ok (.lcmp, 1)) (hp : pc + 1 = pc')
    (K : Goes p e below Post (T.setTop (mkF m pc' ls (.int (XT.cmpL x y) :: st)))) : Goes p e below Post (T.setTop (mkF m pc ls (.long y :: .long x :: st))) := by
  subst hp; exact Goes.go (fun _ k => XT.lcmp h hx rfl hd rfl k) K
theorem idiv (h : At T m c below) (hx : p.tables.exec = Jvm.exec) (pc' : Nat) {x y : Int32} (hd : decode c.code pc = .ok (.idiv, 1)) (hy : y ≠ 0) (hp : pc + 1 = pc')
    (K : Goes p e below Post (T.setTop (mkF m pc' ls (.int (x / y) :: st)))) : Goes p e below Post (T.setTop (mkF m pc ls (.int y :: .int x :: st))) := by
  subst hp; exact Goes.go (fun _ k => XS.idiv h hx rfl hd rfl hy k) K
theorem irem (h : At T m c below) (hx : p.tables.exec = Jvm.exec) (pc' : Nat) {x y : Int32} (hd : decode c.code pc = .ok (.irem, 1)) (hy : y ≠ 0) (hp : pc + 1 = pc')
    (K : Goes p e below Post (T.setTop (mkF m pc' ls (.int (x % y) :: st)))) : Goes p e below Post (T.setTop (mkF m pc ls (.int y :: .int x :: st))) := by
  subst hp; exact Goes.go (fun _ k => XS.irem h hx rfl hd rfl hy (by rw [irem_eq_mod]; exact k)) K
theorem ineg (h : At T m c below) (hx : p.tables.exec = Jvm.exec) (pc' : Nat) {x : Int32} (hd : decode c.code pc = .ok (.ineg, 1)) (hp : pc + 1 = pc')
    (K : Goes p e below Post (T.setTop (mkF m pc' ls (.int (-x) :: st)))) : Goes p e below Post (T.setTop (mkF m pc ls (.int x :: st))) := by
  subst hp; exact Goes.go (fun _ k => XS.ineg h hx rfl hd rfl k) K
theorem lneg (h : At T m c below) (hx : p.tables.exec = Jvm.exec) (pc' : Nat) {x : Int64} (hd : decode c.code pc = .ok (.lneg, 1)) (hp : pc + 1 = pc')
    (K : Goes p e below Post (T.setTop (mkF m pc' ls (.long (-x) :: st)))) : Goes p e below Post (T.setTop (mkF m pc ls (.long x :: st))) := by
  subst hp; exact Goes.go (fun _ k => XT.lneg h hx rfl hd rfl k) K
theorem i2l (h : At T m c below) (hx : p.tables.exec = Jvm.exec) (pc' : Nat) {x : Int32} (hd : decode c.code pc = .ok (.i2l, 1)) (hp : pc + 1 = pc')
    (K : Goes p e below Post (T.setTop (mkF m pc' ls (.long x.toInt64 :: st)))) : Goes p e below Post (T.setTop (mkF m pc ls (.int x :: st))) := by
  subst hp; exact Goes.go (fun _ k => XT.i2l h hx rfl hd rfl k) K
theorem l2i (h : At T m c below) (hx : p.tables.exec = Jvm.exec) (pc' : Nat) {x : Int64} (hd : decode c.code pc = .ok (.l2i, 1)) (hp : pc + 1 = pc')
    (K : Goes p e below Post (T.setTop (mkF m pc' ls (.int x.toInt32 :: st)))) : Goes p e below Post (T.setTop (mkF m pc ls (.long x :: st))) := by
  subst hp; exact Goes.go (fun _ k => XT.l2i h hx rfl hd rfl k) K
theorem i2b (h : At T m c below) (hx : p.tables.exec = Jvm.exec) (pc' : Nat) {x : Int32} (hd : decode c.code pc = .ok (.i2b, 1)) (hp : pc + 1 = pc')
    (K : Goes p e below Post (T.setTop (mkF m pc' ls (.int (OwnKit.i2b x) :: st)))) : Goes p e below Post (T.setTop (mkF m pc ls (.int x :: st))) := by
  subst hp; exact Goes.go (fun _ k => XT.i2b h hx rfl hd rfl k) K
theorem i2c (h : At T m c below) (hx : p.tables.exec = Jvm.exec) (pc' : Nat) {x : Int32} (hd : decode c.code pc = .ok (.i2c, 1)) (hp : pc + 1 = pc')
    (K : Goes p e below Post (T.setTop (mkF m pc' ls (.int (OwnKit.i2c x) :: st)))) : Goes p e below Post (T.setTop (mkF m pc ls (.int x :: st))) := by
  subst hp; exact Goes.go (fun _ k => XT.i2c h hx rfl hd rfl k) K
theorem dup (h : At T m c below) (hx : p.tables.exec = Jvm.exec) (pc' : Nat) {x : Value} (hd : decode c.code pc = .ok (.dup, 1)) (hc : x.category = 1) (hp : pc + 1 = pc')
    (K : Goes p e below Post (T.setTop (mkF m pc' ls (x :: x :: st)))) : Goes p e below Post (T.setTop (mkF m pc ls (x :: st))) := by
  subst hp; exact Goes.go (fun _ k => XS.dup h hx rfl hd rfl hc k) K
theorem pop (h : At T m c below) (hx : p.tables.exec = Jvm.exec) (pc' : Nat) {x : Value} (hd : decode c.code pc = .ok (.pop, 1)) (hc : x.category = 1) (hp : pc + 1 = pc')
    (K : Goes p e below Post (T.setTop (mkF m pc' ls st))) : Goes p e below Post (T.setTop (mkF m pc ls (x :: st))) := by
  subst hp; exact Goes.go (fun _ k => XT.pop h hx rfl hd rfl hc k) K
theorem dupX1 (h : At T m c below) (hx : p.tables.exec = Jvm.exec) (pc' : Nat) {x y : Value} (hd : decode c.code pc = .ok (.dup_x1, 1)) (hc : x.category = 1) (hc' : y.category = 1) (hp : pc + 1 = pc')
    (K : Goes p e below Post (T.setTop (mkF m pc' ls (x :: y :: x :: st)))) : Goes p e below Post (T.setTop (mkF m pc ls (x :: y :: st))) := by
  subst hp; exact Goes.go (fun _ k => XT.dupX1 h hx rfl hd rfl hc hc' k) K
theorem dup2 (h : At T m c below) (hx : p.tables.exec = Jvm.exec) (pc' : Nat) {x y : Value} (hd : decode c.code pc = .ok (.dup2, 1)) (hc : x.category = 1) (hc' : y.category = 1) (hp : pc + 1 = pc')
    (K : Goes p e below Post (T.setTop (mkF m pc' ls (x :: y :: x :: y :: st)))) : Goes p e below Post (T.setTop (mkF m pc ls (x :: y :: st))) := by
  subst hp; exact Goes.go (fun _ k => XT.dup2 h hx rfl hd rfl hc hc' k) K
theorem iaddF (h : At T m c below) (hx : p.tables.exec = Jvm.exec) (pc' : Nat) (z : Int32) {x y : Int32} (hd : decode c.code pc = .ok (.iadd, 1)) (hz : x + y = z) (hp : pc + 1 = pc')
    (K : Goes p e below Post (T.setTop (mkF m pc' ls (.int z :: st)))) : Goes p e below Post (T.setTop (mkF m pc ls (.int y :: .int x :: st))) := by
  subst hz; exact iadd h hx pc' hd hp K
theorem isubF (h : At T m c below) (hx : p.tables.exec = Jvm.exec) (pc' : Nat) (z : Int32) {x y : Int32} (hd : decode c.code pc = .ok (.isub, 1)) (hz : x - y = z) (hp : pc + 1 = pc')
    (K : Goes p e below Post (T.setTop (mkF m pc' ls (.int z :: st)))) : Goes p e below Post (T.setTop (mkF m pc ls (.int y :: .int x :: st))) := by
  subst hz; exact isub h hx pc' hd hp K
theorem imulF (h : At T m c below) (hx : p.tables.exec = Jvm.exec) (pc' : Nat) (z : Int32) {x y : Int32} (hd : decode c.code pc = .ok (.imul, 1)) (hz : x * y = z) (hp : pc + 1 = pc')
    (K : Goes p e below Post (T.setTop (mkF m pc' ls (.int z :: st)))) : Goes p e below Post (T.setTop (mkF m pc ls (.int y :: .int x :: st))) := by
  subst hz; exact imul h hx pc' hd hp K
theorem iandF (h : At T m c below) (hx : p.tables.exec = Jvm.exec) (pc' : Nat) (z : Int32) {x y : Int32} (hd : decode c.code pc = .ok (.iand, 1)) (hz : x &&& y = z) (hp : pc + 1 = pc')
    (K : Goes p e below Post (T.setTop (mkF m pc' ls (.int z :: st)))) : Goes p e below Post (T.setTop (mkF m pc ls (.int y :: .int x :: st))) := by
  subst hz; exact iand h hx pc' hd hp K
theorem iorF (h : At T m c below) (hx : p.tables.exec = Jvm.exec) (pc' : Nat) (z : Int32) {x y : Int32} (hd : decode c.code pc = .ok (.ior, 1)) (hz : x ||| y = z) (hp : pc + 1 = pc')
    (K : Goes p e below Post (T.setTop (mkF m pc' ls (.int z :: st)))) : Goes p e below Post (T.setTop (mkF m pc ls (.int y :: .int x :: st))) := by
  subst hz; exact ior h hx pc' hd hp K
theorem ixorF (h : At T m c below) (hx : p.tables.exec = Jvm.exec) (pc' : Nat) (z : Int32) {x y : Int32} (hd : decode c.code pc = .ok (.ixor, 1)) (hz : x ^^^ y = z) (hp : pc + 1 = pc')
    (K : Goes p e below Post (T.setTop (mkF m pc' ls (.int z :: st)))) : Goes p e below Post (T.setTop (mkF m pc ls (.int y :: .int x :: st))) := by
  subst hz; exact ixor h hx pc' hd hp K
theorem ishlF (h : At T m c below) (hx : p.tables.exec = Jvm.exec) (pc' : Nat) (z : Int32) {x y : Int32} (hd : decode c.code pc = .ok (.ishl, 1)) (hz : x <<< (y &&& 31) = z) (hp : pc + 1 = pc')
    (K : Goes p e below Post (T.setTop (mkF m pc' ls (.int z :: st)))) : Goes p e below Post (T.setTop (mkF m pc ls (.int y :: .int x :: st))) := by
  subst hz; exact ishl h hx pc' hd hp K
theorem ishrF (h : At T m c below) (hx : p.tables.exec = Jvm.exec) (pc' : Nat) (z : Int32) {x y : Int32} (hd : decode c.code pc = .ok (.ishr, 1)) (hz : x >>> (y &&& 31) = z) (hp : pc + 1 = pc')
    (K : Goes p e below Post (T.setTop (mkF m pc' ls (.int z :: st)))) : Goes p e below Post (T.setTop (mkF m pc ls (.int y :: .int x :: st))) := by
  subst hz; exact ishr h hx pc' hd hp K
theorem iushrF (h : At T m c below) (hx : p.tables.exec = Jvm.exec) (pc' : Nat) (z : Int32) {x y : Int32} (hd : decode c.code pc = .ok (.iushr, 1)) (hz : XT.ushr x y = z) (hp : pc + 1 = pc')
    (K : Goes p e below Post (T.setTop (mkF m pc' ls (.int z :: st)))) : Goes p e below Post (T.setTop (mkF m pc ls (.int y :: .int x :: st))) := by
  subst hz; exact iushr h hx pc' hd hp K
theorem inegF (h : At T m c below) (hx : p.tables.exec = Jvm.exec) (pc' : Nat) (z : Int32) {x : Int32} (hd : decode c.code pc = .ok (.ineg, 1)) (hz : -x = z) (hp : pc + 1 = pc')
    (K : Goes p e below Post (T.setTop (mkF m pc' ls (.int z :: st)))) : Goes p e below Post (T.setTop (mkF m pc ls (.int x :: st))) := by
  subst hz; exact ineg h hx pc' hd hp K
theorem istore (h : At T m c below) (hx : p.tables.exec = Jvm.exec) (pc' : Nat) (l' : Int32 → Array Slot) {k : Nat} {x : Int32} (hd : decode c.code pc = .ok (.istore k, 2)) (hl : ∀ v, storeLocals ls k (.int v) = some (l' v)) (hp : pc + 2 = pc')
    (K : ∀ v, v = x → Goes p e below Post (T.setTop (mkF m pc' (l' v) st))) : Goes p e below Post (T.setTop (mkF m pc ls (.int x :: st))) := by
  subst hp; exact Goes.go (fun _ k => XS.istore h hx rfl hd rfl (hl x) k) (K x rfl)
theorem istoreN (h : At T m c below) (hx : p.tables.exec = Jvm.exec) (pc' : Nat) (l' : Int32 → Array Slot) {k : Fin 4} {x : Int32} (hd : decode c.code pc = .ok (.istore_n k, 1)) (hl : ∀ v, storeLocals ls k.val (.int v) = some (l' v)) (hp : pc + 1 = pc')
    (K : ∀ v, v = x → Goes p e below Post (T.setTop (mkF m pc' (l' v) st))) : Goes p e below Post (T.setTop (mkF m pc ls (.int x :: st))) := by
  subst hp; exact Goes.go (fun _ k => XS.istoreN h hx rfl hd rfl (hl x) k) (K x rfl)
theorem lstore (h : At T m c below) (hx : p.tables.exec = Jvm.exec) (pc' : Nat) (l' : Int64 → Array Slot) {k : Nat} {x : Int64} (hd : decode c.code pc = .ok (.lstore k, 2)) (hl : ∀ v, storeLocals ls k (.long v) = some (l' v)) (hp : pc + 2 = pc')
    (K : ∀ v, v = x → Goes p e below Post (T.setTop (mkF m pc' (l' v) st))) : Goes p e below Post (T.setTop (mkF m pc ls (.long x :: st))) := by
  subst hp; exact Goes.go (fun _ k => XT.lstore h hx rfl hd rfl (hl x) k) (K x rfl)
theorem lstoreN (h : At T m c below) (hx : p.tables.exec = Jvm.exec) (pc' : Nat) (l' : Int64 → Array Slot) {k : Fin 4} {x : Int64} (hd : decode c.code pc = .ok (.lstore_n k, 1)) (hl : ∀ v, storeLocals ls k.val (.long v) = some (l' v)) (hp : pc + 1 = pc')
    (K : ∀ v, v = x → Goes p e below Post (T.setTop (mkF m pc' (l' v) st))) : Goes p e below Post (T.setTop (mkF m pc ls (.long x :: st))) := by
  subst hp; exact Goes.go (fun _ k => XT.lstoreN h hx rfl hd rfl (hl x) k) (K x rfl)
theorem istoreX (h : At T m c below) (hx : p.tables.exec = Jvm.exec) (pc' : Nat) (l' : Array Slot) {k : Nat} {x : Int32} (hd : decode c.code pc = .ok (.istore k, 2)) (hl : storeLocals ls k (.int x) = some l') (hp : pc + 2 = pc')
    (K : Goes p e below Post (T.setTop (mkF m pc' l' st))) : Goes p e below Post (T.setTop (mkF m pc ls (.int x :: st))) := by
  subst hp; exact Goes.go (fun _ k => XS.istore h hx rfl hd rfl hl k) K
theorem istoreNX (h : At T m c below) (hx : p.tables.exec = Jvm.exec) (pc' : Nat) (l' : Array Slot) {k : Fin 4} {x : Int32} (hd : decode c.code pc = .ok (.istore_n k, 1)) (hl : storeLocals ls k.val (.int x) = some l') (hp : pc + 1 = pc')
    (K : Goes p e below Post (T.setTop (mkF m pc' l' st))) : Goes p e below Post (T.setTop (mkF m pc ls (.int x :: st))) := by
  subst hp; exact Goes.go (fun _ k => XS.istoreN h hx rfl hd rfl hl k) K
theorem lstoreX (h : At T m c below) (hx : p.tables.exec = Jvm.exec) (pc' : Nat) (l' : Array Slot) {k : Nat} {x : Int64} (hd : decode c.code pc = .ok (.lstore k, 2)) (hl : storeLocals ls k (.long x) = some l') (hp : pc + 2 = pc')
    (K : Goes p e below Post (T.setTop (mkF m pc' l' st))) : Goes p e below Post (T.setTop (mkF m pc ls (.long x :: st))) := by
  subst hp; exact Goes.go (fun _ k => XT.lstore h hx rfl hd rfl hl k) K
theorem lstoreNX (h : At T m c below) (hx : p.tables.exec = Jvm.exec) (pc' : Nat) (l' : Array Slot) {k : Fin 4} {x : Int64} (hd : decode c.code pc = .ok (.lstore_n k, 1)) (hl : storeLocals ls k.val (.long x) = some l') (hp : pc + 1 = pc')
    (K : Goes p e below Post (T.setTop (mkF m pc' l' st))) : Goes p e below Post (T.setTop (mkF m pc ls (.long x :: st))) := by
  subst hp; exact Goes.go (fun _ k => XT.lstoreN h hx rfl hd rfl hl k) K
theorem iincX (h : At T m c below) (hx : p.tables.exec = Jvm.exec) (pc' : Nat) (l' : Array Slot) {k : Nat} {cst : Int} {x : Int32} (hd : decode c.code pc = .ok (.iinc k cst, 3)) (hg : ls[k]? = some (.val (.int x))) (z : Int32) (hz : Int32.ofInt cst = z) (hl : storeLocals ls k (.int (x + z)) = some l') (hp : pc + 3 = pc')
    (K : Goes p e below Post (T.setTop (mkF m pc' l' st))) : Goes p e below Post (T.setTop (mkF m pc ls st)) := by
  subst hp hz; exact Goes.go (fun _ k => XS.iinc h hx rfl hd hg hl k) K
theorem astore (h : At T m c below) (hx : p.tables.exec = Jvm.exec) (pc' : Nat) (l' : Array Slot) {k : Nat} {x : Value} (hd : decode c.code pc = .ok (.astore k, 2)) (hv : x.isRef = true) (hl : storeLocals ls k x = some l') (hp : pc + 2 = pc')
    (K : Goes p e below Post (T.setTop (mkF m pc' l' st))) : Goes p e below Post (T.setTop (mkF m pc ls (x :: st))) := by
  subst hp; exact Goes.go (fun _ k => XS.astore h hx rfl hd rfl hv hl k) K
theorem astoreN (h : At T m c below) (hx : p.tables.exec = Jvm.exec) (pc' : Nat) (l' : Array Slot) {k : Fin 4} {x : Value} (hd : decode c.code pc = .ok (.astore_n k, 1)) (hv : x.isRef = true) (hl : storeLocals ls k.val x = some l') (hp : pc + 1 = pc')
    (K : Goes p e below Post (T.setTop (mkF m pc' l' st))) : Goes p e below Post (T.setTop (mkF m pc ls (x :: st))) := by
  subst hp; exact Goes.go (fun _ k => XS.astoreN h hx rfl hd rfl hv hl k) K
theorem iinc (h : At T m c below) (hx : p.tables.exec = Jvm.exec) (pc' : Nat) (l' : Int32 → Array Slot) {k : Nat} {cst : Int} {x : Int32} (hd : decode c.code pc = .ok (.iinc k cst, 3)) (hg : ls[k]? = some (.val (.int x))) (z : Int32) (hz : Int32.ofInt cst = z) (hl : ∀ v, storeLocals ls k (.int v) = some (l' v)) (hp : pc + 3 = pc')
    (K : ∀ v, v = x + z → Goes p e below Post (T.setTop (mkF m pc' (l' v) st))) : Goes p e below Post (T.setTop (mkF m pc ls st)) := by
  subst hp hz; exact Goes.go (fun _ k => XS.iinc h hx rfl hd hg (hl _) k) (K _ rfl)
theorem goto (h : At T m c below) (hx : p.tables.exec = Jvm.exec) (pc' : Nat) {o : Int} (hd : decode c.code pc = .ok (.goto o, 3)) (ho : 0 ≤ (pc : Int) + o) (hp : ((pc : Int) + o).toNat = pc')
    (K : Goes p e below Post (T.setTop (mkF m pc' ls st))) : Goes p e below Post (T.setTop (mkF m pc ls st)) := Goes.go (fun _ k => XS.goto h hx rfl (pc0 := pc) rfl hd ho hp k) K
theorem ifY (h : At T m c below) (hx : p.tables.exec = Jvm.exec) (pc' : Nat) {cd : ClassFile.Cond} {x : Int32} {o : Int} (hd : decode c.code pc = .ok (.ifCond cd o, 3)) (hc : ifCond.holds cd x = true) (ho : 0 ≤ (pc : Int) + o) (hp : ((pc : Int) + o).toNat = pc')
    (K : Goes p e below Post (T.setTop (mkF m pc' ls st))) : Goes p e below Post (T.setTop (mkF m pc ls (.int x :: st))) := Goes.go (fun _ k => XS.ifYes h hx rfl (pc0 := pc) rfl hd rfl hc ho hp k) K
theorem ifN (h : At T m c below) (hx : p.tables.exec = Jvm.exec) (pc' : Nat) {cd : ClassFile.Cond} {x : Int32} {o : Int} (hd : decode c.code pc = .ok (.ifCond cd o, 3)) (hc : ifCond.holds cd x = false) (hp : pc + 3 = pc')
    (K : Goes p e below Post (T.setTop (mkF m pc' ls st))) : Goes p e below Post (T.setTop (mkF m pc ls (.int x :: st))) := by
  subst hp; exact Goes.go (fun _ k => XS.ifNo h hx rfl hd rfl hc k) K
theorem icmpY (h : At T m c below) (hx : p.tables.exec = Jvm.exec) (pc' : Nat) {cd : ClassFile.Cond} {x y : Int32} {o : Int} (hd : decode c.code pc = .ok (.if_icmp cd o, 3)) (hc : if_icmp.holds cd x y = true) (ho : 0 ≤ (pc : Int) + o) (hp : ((pc : Int) + o).toNat = pc')
    (K : Goes p e below Post (T.setTop (mkF m pc' ls st))) : Goes p e below Post (T.setTop (mkF m pc ls (.int y :: .int x :: st))) := Goes.go (fun _ k => XS.icmpYes h hx rfl (pc0 := pc) rfl hd rfl hc ho hp k) K
theorem icmpN (h : At T m c below) (hx : p.tables.exec = Jvm.exec) (pc' : Nat) {cd : ClassFile.Cond} {x y : Int32} {o : Int} (hd : decode c.code pc = .ok (.if_icmp cd o, 3)) (hc : if_icmp.holds cd x y = false) (hp : pc + 3 = pc')
    (K : Goes p e below Post (T.setTop (mkF m pc' ls st))) : Goes p e below Post (T.setTop (mkF m pc ls (.int y :: .int x :: st))) := by
  subst hp; exact Goes.go (fun _ k => XS.icmpNo h hx rfl hd rfl hc k) K
theorem ifnullY (h : At T m c below) (hx : p.tables.exec = Jvm.exec) (pc' : Nat) {o : Int} (hd : decode c.code pc = .ok (.ifnull o, 3)) (ho : 0 ≤ (pc : Int) + o) (hp : ((pc : Int) + o).toNat = pc')
    (K : Goes p e below Post (T.setTop (mkF m pc' ls st))) : Goes p e below Post (T.setTop (mkF m pc ls (.null :: st))) := Goes.go (fun _ k => XS.ifnullYes h hx rfl (pc0 := pc) rfl hd rfl ho hp k) K
theorem ifnullN (h : At T m c below) (hx : p.tables.exec = Jvm.exec) (pc' : Nat) {b : Addr} {o : Int} (hd : decode c.code pc = .ok (.ifnull o, 3)) (hp : pc + 3 = pc')
    (K : Goes p e below Post (T.setTop (mkF m pc' ls st))) : Goes p e below Post (T.setTop (mkF m pc ls (.ref b :: st))) := by
  subst hp; exact Goes.go (fun _ k => XS.ifnullNo h hx rfl hd rfl k) K
theorem ifnonnullY (h : At T m c below) (hx : p.tables.exec = Jvm.exec) (pc' : Nat) {b : Addr} {o : Int} (hd : decode c.code pc = .ok (.ifnonnull o, 3)) (ho : 0 ≤ (pc : Int) + o) (hp : ((pc : Int) + o).toNat = pc')
    (K : Goes p e below Post (T.setTop (mkF m pc' ls st))) : Goes p e below Post (T.setTop (mkF m pc ls (.ref b :: st))) := Goes.go (fun _ k => XT.ifnonnullYes h hx rfl (pc0 := pc) rfl hd rfl ho hp k) K
theorem ifnonnullN (h : At T m c below) (hx : p.tables.exec = Jvm.exec) (pc' : Nat) {o : Int} (hd : decode c.code pc = .ok (.ifnonnull o, 3)) (hp : pc + 3 = pc')
    (K : Goes p e below Post (T.setTop (mkF m pc' ls st))) : Goes p e below Post (T.setTop (mkF m pc ls (.null :: st))) := by
  subst hp; exact Goes.go (fun _ k => XT.ifnonnullNo h hx rfl hd rfl k) K
theorem acmpY (h : At T m c below) (hx : p.tables.exec = Jvm.exec) (pc' : Nat) {cd : ClassFile.ACond} {x y : Value} {o : Int} (hd : decode c.code pc = .ok (.if_acmp cd o, 3)) (h1 : x.isRef = true) (h2 : y.isRef = true) (hc : XT.acmp cd x y = true) (ho : 0 ≤ (pc : Int) + o) (hp : ((pc : Int) + o).toNat = pc')
    (K : Goes p e below Post (T.setTop (mkF m pc' ls st))) : Goes p e below Post (T.setTop (mkF m pc ls (y :: x :: st))) := Goes.go (fun _ k => XT.acmpYes h hx rfl (pc0 := pc) rfl hd rfl h1 h2 hc ho hp k) K
theorem acmpN (h : At T m c below) (hx : p.tables.exec = Jvm.exec) (pc' : Nat) {cd : ClassFile.ACond} {x y : Value} {o : Int} (hd : decode c.code pc = .ok (.if_acmp cd o, 3)) (h1 : x.isRef = true) (h2 : y.isRef = true) (hc : XT.acmp cd x y = false) (hp : pc + 3 = pc')
    (K : Goes p e below Post (T.setTop (mkF m pc' ls st))) : Goes p e below Post (T.setTop (mkF m pc ls (y :: x :: st))) := by
  subst hp; exact Goes.go (fun _ k => XT.acmpNo h hx rfl hd rfl h1 h2 hc k) K
theorem ifnullV (h : At T m c below) (hx : p.tables.exec = Jvm.exec) (pc' pn : Nat) {v : Value} (hv : v.isRef = true) {o : Int} (hd : decode c.code pc = .ok (.ifnull o, 3)) (ho : 0 ≤ (pc : Int) + o) (hp : ((pc : Int) + o).toNat = pc') (hq : pc + 3 = pn)
    (KY : v = .null → Goes p e below Post (T.setTop (mkF m pc' ls st))) (KN : ¬ v = .null → Goes p e below Post (T.setTop (mkF m pn ls st))) : Goes p e below Post (T.setTop (mkF m pc ls (v :: st))) := by
  subst hq
  rcases ref_cases hv with hv0 | ⟨b, hv0⟩
  · subst hv0; exact Goes.go (fun _ k => XS.ifnullYes h hx rfl (pc0 := pc) rfl hd rfl ho hp k) (KY rfl)
  · subst hv0; exact Goes.go (fun _ k => XS.ifnullNo h hx rfl hd rfl k) (KN (fun q => nomatch q))
theorem ifnonnullV (h : At T m c below) (hx : p.tables.exec = Jvm.exec) (pc' pn : Nat) {v : Value} (hv : v.isRef = true) {o : Int} (hd : decode c.code pc = .ok (.ifnonnull o, 3)) (ho : 0 ≤ (pc : Int) + o) (hp : ((pc : Int) + o).toNat = pc') (hq : pc + 3 = pn)
    (KY : ¬ v = .null → Goes p e below Post (T.setTop (mkF m pc' ls st))) (KN : v = .null → Goes p e below Post (T.setTop (mkF m pn ls st))) : Goes p e below Post (T.setTop (mkF m pc ls (v :: st))) := by
  subst hq
  rcases ref_cases hv with hv0 | ⟨b, hv0⟩
  · subst hv0; exact Goes.go (fun _ k => XT.ifnonnullNo h hx rfl hd rfl k) (KN rfl)
  · subst hv0; exact Goes.go (fun _ k => XT.ifnonnullYes h hx rfl (pc0 := pc) rfl hd rfl ho hp k) (KY (fun q => nomatch q))
end G
end Goes
end Jvm.OwnKit
namespace Jvm.OwnKit
open Sem ClassFile Op Lib Jvm.Stand Jvm.Free Jvm.LawKit Jvm.RoadKit
theorem ext_refl (h : Heap) : Ext h h := ⟨Nat.le_refl _, fun _ _ q => q⟩
theorem ext_trans {h h' h'' : Heap} (A : Ext h h') (B : Ext h' h'') : Ext h h'' := ⟨Nat.le_trans A.1 B.1, fun x c q => B.2 x c (A.2 x c q)⟩
theorem ext_keep {h h' : Heap} (E : Ext h h') (ws : List Addr) : Keep h h' ws := (Keep.refl h ws).ext E
theorem keep_ext {h h' : Heap} {ws : List Addr} (K : Keep h h' ws) (q : ∀ x ∈ ws, h.size ≤ x) : Ext h h' :=
  ⟨K.1, fun x c hx => K.2.1 x c hx fun z => absurd (Array.getElem?_eq_some_iff.mp hx).1 (Nat.not_lt.mpr (q x z))⟩
theorem keep_nil {h h' : Heap} (K : Keep h h' []) : Ext h h' := keep_ext K fun _ q => nomatch q
theorem keep_one {h h' : Heap} {a : Addr} (K : Keep h h' [a]) (q : h.size ≤ a) : Ext h h' := keep_ext K fun x hx => by cases List.mem_singleton.mp hx; exact q
/-- where the walk of a body stands: its start's heap h0, what it may write of it (ws), the tables' base vm0, the state, the heap -/
def Wk (p : Program) (l : Launch) (e : Env) (R : Room) (s : State) (m : MethodId) (args : Array Value) (below : List Frame) (meth : Method) (c : Code) (Z : State) (EL : List (String × Nat)) (h0 : Heap) (ws : List Addr) (vm0 : Vm) (T : State) (h : Heap) (cells slots : Nat) : Prop :=
  ∃ locs, Stand p l e R (s.setVm vm0) m args below meth c T locs cells slots ∧ Fr Z.heap.size locs ∧ T.heap = h ∧ Keep h0 h ws ∧ s.heap = h0 ∧ Ext Z.heap h0 ∧ (∀ x ∈ ws, Z.heap.size ≤ x) ∧ Z.Warmed39 vm0 ∧ (∃ k0, s.Since vm0 k0 ∧ k0 ≤ h.size) ∧ CHr Z EL s.vm h0 vm0 h
section Wk
variable {p : Program} {l : Launch} {e : Env} {R : Room} {s : State} {m : MethodId} {args : Array Value} {below : List Frame} {meth : Method} {c : Code} {Z : State} {EL : List (String × Nat)} {h0 : Heap} {ws : List Addr} {vm0 : Vm} {T : State} {h : Heap} {cells slots : Nat} {a0 : Array Value} {Post : Outcome → State → Prop} {pc : Nat} {ls : Array Slot} {st rest : List Value} {own : String}
theorem Wk.here (W : Wk p l e R s m args below meth c Z EL h0 ws vm0 T h cells slots) : At T m c below := by obtain ⟨_, X, _⟩ := W; exact X.here
theorem Wk.warm (W : Wk p l e R s m args below meth c Z EL h0 ws vm0 T h cells slots) : Z.Warmed39 vm0 := by obtain ⟨_, _, _, _, _, _, _, _, q, _⟩ := W; exact q
theorem Wk.alike (W : Wk p l e R s m args below meth c Z EL h0 ws vm0 T h cells slots) : Z.vm.Alike vm0 := W.warm.alike
theorem Wk.chr (W : Wk p l e R s m args below meth c Z EL h0 ws vm0 T h cells slots) : CHr Z EL s.vm h0 vm0 h := by obtain ⟨_, _, _, _, _, _, _, _, _, _, q⟩ := W; exact q
theorem Wk.ch (W : Wk p l e R s m args below meth c Z EL h0 ws vm0 T h cells slots) : CHv Z EL vm0 h := W.chr.1
theorem Wk.keeps (W : Wk p l e R s m args below meth c Z EL h0 ws vm0 T h cells slots) : Keep h0 h ws := by obtain ⟨_, _, _, _, q, _⟩ := W; exact q
theorem Wk.size (W : Wk p l e R s m args below meth c Z EL h0 ws vm0 T h cells slots) : h0.size ≤ h.size := W.keeps.1
theorem Wk.zsize (W : Wk p l e R s m args below meth c Z EL h0 ws vm0 T h cells slots) : Z.heap.size ≤ h0.size := by obtain ⟨_, _, _, _, _, _, q, _⟩ := W; exact q.1
theorem Wk.mono (W : Wk p l e R s m args below meth c Z EL h0 ws vm0 T h cells slots) {cells' slots' : Nat} (hc : cells ≤ cells') (hn : slots ≤ slots') : Wk p l e R s m args below meth c Z EL h0 ws vm0 T h cells' slots' := by
  obtain ⟨locs, X, r⟩ := W; exact ⟨locs, X.mono hc hn, r⟩
theorem Wk.old (W : Wk p l e R s m args below meth c Z EL h0 ws vm0 T h cells slots) : Ext Z.heap h := by
  obtain ⟨_, _, _, _, K, _, E, hws, _⟩ := W
  exact ⟨Nat.le_trans E.1 K.1, fun x cl q => K.2.1 x cl (E.2 x cl q) fun z => absurd (Array.getElem?_eq_some_iff.mp q).1 (Nat.not_lt.mpr (hws x z))⟩
theorem Wk.wown (W : Wk p l e R s m args below meth c Z EL h0 ws vm0 T h cells slots) (ho : Z.vm.findClass own = some m.cls) : (s.setVm vm0).vm.findClass own = some m.cls := by
  show vm0.findClass own = some m.cls
  rw [W.alike.findClass]; exact ho
theorem Wk.may (W : Wk p l e R s m args below meth c Z EL h0 ws vm0 T h cells slots) {a : Addr} (q : a ∈ ws ∨ h0.size ≤ a) : Z.heap.size ≤ a := by
  obtain ⟨_, _, _, _, _, _, E, hws, _⟩ := W
  exact q.elim (hws a) fun r => Nat.le_trans E.1 r
theorem Wk.grown (W : Wk p l e R s m args below meth c Z EL h0 ws vm0 T h cells slots) {T' : State} {h' : Heap} {k n : Nat} (X' : ∀ locs, Stand p l e R (s.setVm vm0) m args below meth c T locs cells slots → Stand p l e R (s.setVm vm0) m args below meth c T' locs k n) (e' : T'.heap = h') (E : Ext h h') : Wk p l e R s m args below meth c Z EL h0 ws vm0 T' h' k n := by
  obtain ⟨locs, X, N, eh, K, es, O, hws, hZ, ⟨k0, hS, hk⟩, C⟩ := W
  exact ⟨locs, X' locs X, N, e', K.ext E, es, O, hws, hZ, ⟨k0, hS, Nat.le_trans hk E.1⟩, C.trans (CHr.ext E C.1)⟩
theorem Wk.newO (W : Wk p l e R s m args below meth c Z EL h0 ws vm0 T h cells slots) (hx : p.tables.exec = Jvm.exec) (ho : Z.vm.findClass own = some m.cls) {C : String} {index n : Nat} (w : (Cond.classLink own index C).before a0 Z = true) (wi : (Cond.instantiable C n).before a0 Z = true) (wz : (Cond.initialized C).before a0 Z = true)
    (pc' : Nat) (hd : decode c.code pc = .ok (.new index, 3)) (hp : pc + 3 = pc') (hc : cells + 1 ≤ R.cells) (hl : slots + n ≤ R.slots)
    (K : ∀ (T' : State) (h' : Heap) (a : Addr), Wk p l e R s m args below meth c Z EL h0 ws vm0 T' h' (cells + 1) (slots + n) → Ext h h' → a = h.size → Exa Z h' a C → (∀ {O nm d : String} {ty : FieldType}, Laid Z a0 C O nm d → parseFieldDescriptor d = some ty → Fld Z h' a O nm d (defaultValue ty)) → Safe Z EL vm0 h' a → Goes p e below Post (T'.setTop (mkF m pc' ls (.ref a :: st)))) : Goes p e below Post (T.setTop (mkF m pc ls st)) := by
  subst hp
  have ho' := W.wown ho
  have W0 := W
  obtain ⟨locs, X, N, eh, K0, es, O, hws, hZ, ⟨k0, hS, hk⟩, C⟩ := W
  obtain ⟨T', h', X', e', E, A, D, -, stp⟩ := RoadKit.newO X hx hZ ho' w wi wz eh (g := mkF m pc ls st) rfl hd hc hl
  exact Goes.go stp (K T' h' _ ⟨locs, X', N, e', K0.ext E, es, O, hws, hZ, ⟨k0, hS, Nat.le_trans hk E.1⟩, C.trans (CHr.ext E C.1)⟩ E rfl A D fun B => Safe.new (Nat.le_refl _) ((C.1.step fun _ _ _ q => E.2 _ _ q).2 _ B))
theorem Wk.newP (W : Wk p l e R s m args below meth c Z EL h0 ws vm0 T h cells slots) (hx : p.tables.exec = Jvm.exec) {aty : ArrayType} (w : (Cond.arrayClass (newarray.typeOf aty)).before a0 Z = true)
    (pc' : Nat) (hd : decode c.code pc = .ok (.newarray aty, 2)) {n : Int32} (hn : ¬ n < 0) (cap : Nat) (hcap : n.toNatClampNeg ≤ cap) (hp : pc + 2 = pc') (hb : cap * 8 ≤ 536870912) (hc : cells + 1 ≤ R.cells) (hl : slots + cap ≤ R.slots)
    (K : ∀ (T' : State) (h' : Heap) (a : Addr) (k : ClassId), Wk p l e R s m args below meth c Z EL h0 ws vm0 T' h' (cells + 1) (slots + cap) → Ext h h' → a = h.size → Arv Z h' a k (newarray.typeOf aty) n (List.replicate cap (defaultValue (newarray.typeOf aty))) (defaultValue (newarray.typeOf aty)) → Safe Z EL vm0 h' a → Goes p e below Post (T'.setTop (mkF m pc' ls (.ref a :: st)))) : Goes p e below Post (T.setTop (mkF m pc ls (.int n :: st))) := by
  subst hp
  obtain ⟨locs, X, N, eh, K0, es, O, hws, hZ, ⟨k0, hS, hk⟩, C⟩ := W
  obtain ⟨T', h', cA, X', e', E, A, stp⟩ := RoadKit.newP X hx hZ w eh (g := mkF m pc ls (.int n :: st)) rfl hd rfl hn hcap hb hc hl
  exact Goes.go stp (K T' h' _ cA ⟨locs, X', N, e', K0.ext E, es, O, hws, hZ, ⟨k0, hS, Nat.le_trans hk E.1⟩, C.trans (CHr.ext E C.1)⟩ E rfl ((Arv.new A hn).pad (pad_rep [] _ cap)) fun B => Safe.new (Nat.le_refl _) ((C.1.step fun _ _ _ q => E.2 _ _ q).2 _ B))
theorem Wk.castore (W : Wk p l e R s m args below meth c Z EL h0 ws vm0 T h cells slots) (hx : p.tables.exec = Jvm.exec) {a : Addr} {k : ClassId} {n : Int32} {vs : List Value} {d : Value} (V : Arv Z h a k .char n vs d) (ha : a ∈ ws ∨ h0.size ≤ a) {j : Int32} {x : Int32} (x' : Int32) (hn : nar .char x = x') (i : Nat) (hj : j.toNatClampNeg = i) (hin : ¬ j < 0 ∧ j < n) (hi : i < vs.length)
    (pc' : Nat) (hd : decode c.code pc = .ok (.castore, 1)) (hp : pc + 1 = pc')
    (K : ∀ (T' : State) (h' : Heap), Wk p l e R s m args below meth c Z EL h0 ws vm0 T' h' cells slots → Keep h h' [a] → CHr Z EL vm0 h vm0 h' → Arv Z h' a k .char n (vs.set i (.int x')) d → Goes p e below Post (T'.setTop (mkF m pc' ls st))) : Goes p e below Post (T.setTop (mkF m pc ls (.int x :: .int j :: .ref a :: st))) := by
  subst hp
  have hza := W.may ha
  obtain ⟨locs, X, N, eh, K0, es, O, hws, hZ, ⟨k0, hS, hk⟩, C⟩ := W
  obtain ⟨cl, A, q1, S, q3, H, G⟩ := V
  obtain ⟨T', h', X', e', Wr', stp⟩ := RoadKit.stC X hx hZ eh A (j := j) (inb_of S hin) (g := mkF m pc ls (.int x :: .int j :: .ref a :: st)) rfl rfl hd
  rw [show nar .char x = x' from hn] at Wr'
  have C1 := CHr.wr Wr' (Safe.arr hZ.alike A (by intro q; cases q)) C.1
  exact Goes.go stp (K T' h' ⟨_, X', Fr.snoc X' N hza, e', K0.wr Wr' ha, es, O, hws, hZ, ⟨k0, hS, Nat.le_trans hk (Keep.of_wr Wr').1⟩, C.trans C1⟩ (Keep.of_wr Wr') C1 (Arv.set A q1 S q3 H G (by rw [← hn]; exact fits_nar_char _) Wr' i hj hi))
theorem Wk.iastore (W : Wk p l e R s m args below meth c Z EL h0 ws vm0 T h cells slots) (hx : p.tables.exec = Jvm.exec) {a : Addr} {k : ClassId} {n : Int32} {vs : List Value} {d : Value} (V : Arv Z h a k .int n vs d) (ha : a ∈ ws ∨ h0.size ≤ a) {j : Int32} {x : Int32} (x' : Int32) (hn : x = x') (i : Nat) (hj : j.toNatClampNeg = i) (hin : ¬ j < 0 ∧ j < n) (hi : i < vs.length)
    (pc' : Nat) (hd : decode c.code pc = .ok (.iastore, 1)) (hp : pc + 1 = pc')
    (K : ∀ (T' : State) (h' : Heap), Wk p l e R s m args below meth c Z EL h0 ws vm0 T' h' cells slots → Keep h h' [a] → CHr Z EL vm0 h vm0 h' → Arv Z h' a k .int n (vs.set i (.int x')) d → Goes p e below Post (T'.setTop (mkF m pc' ls st))) : Goes p e below Post (T.setTop (mkF m pc ls (.int x :: .int j :: .ref a :: st))) := by
  subst hp
  have hza := W.may ha
  obtain ⟨locs, X, N, eh, K0, es, O, hws, hZ, ⟨k0, hS, hk⟩, C⟩ := W
  obtain ⟨cl, A, q1, S, q3, H, G⟩ := V
  obtain ⟨T', h', X', e', Wr', stp⟩ := RoadKit.stI X hx hZ eh A (j := j) (inb_of S hin) (g := mkF m pc ls (.int x :: .int j :: .ref a :: st)) rfl rfl hd
  rw [show x = x' from hn] at Wr'
  have C1 := CHr.wr Wr' (Safe.arr hZ.alike A (by intro q; cases q)) C.1
  exact Goes.go stp (K T' h' ⟨_, X', Fr.snoc X' N hza, e', K0.wr Wr' ha, es, O, hws, hZ, ⟨k0, hS, Nat.le_trans hk (Keep.of_wr Wr').1⟩, C.trans C1⟩ (Keep.of_wr Wr') C1 (Arv.set A q1 S q3 H G (rfl) Wr' i hj hi))
theorem Wk.lastore (W : Wk p l e R s m args below meth c Z EL h0 ws vm0 T h cells slots) (hx : p.tables.exec = Jvm.exec) {a : Addr} {k : ClassId} {n : Int32} {vs : List Value} {d : Value} (V : Arv Z h a k .long n vs d) (ha : a ∈ ws ∨ h0.size ≤ a) {j : Int32} {x : Int64} (x' : Int64) (hn : x = x') (i : Nat) (hj : j.toNatClampNeg = i) (hin : ¬ j < 0 ∧ j < n) (hi : i < vs.length)
    (pc' : Nat) (hd : decode c.code pc = .ok (.lastore, 1)) (hp : pc + 1 = pc')
    (K : ∀ (T' : State) (h' : Heap), Wk p l e R s m args below meth c Z EL h0 ws vm0 T' h' cells slots → Keep h h' [a] → CHr Z EL vm0 h vm0 h' → Arv Z h' a k .long n (vs.set i (.long x')) d → Goes p e below Post (T'.setTop (mkF m pc' ls st))) : Goes p e below Post (T.setTop (mkF m pc ls (.long x :: .int j :: .ref a :: st))) := by
  subst hp
  have hza := W.may ha
  obtain ⟨locs, X, N, eh, K0, es, O, hws, hZ, ⟨k0, hS, hk⟩, C⟩ := W
  obtain ⟨cl, A, q1, S, q3, H, G⟩ := V
  obtain ⟨T', h', X', e', Wr', stp⟩ := RoadKit.stJ X hx hZ eh A (j := j) (inb_of S hin) (g := mkF m pc ls (.long x :: .int j :: .ref a :: st)) rfl rfl hd
  rw [show x = x' from hn] at Wr'
  have C1 := CHr.wr Wr' (Safe.arr hZ.alike A (by intro q; cases q)) C.1
  exact Goes.go stp (K T' h' ⟨_, X', Fr.snoc X' N hza, e', K0.wr Wr' ha, es, O, hws, hZ, ⟨k0, hS, Nat.le_trans hk (Keep.of_wr Wr').1⟩, C.trans C1⟩ (Keep.of_wr Wr') C1 (Arv.set A q1 S q3 H G (rfl) Wr' i hj hi))
theorem Wk.bastore (W : Wk p l e R s m args below meth c Z EL h0 ws vm0 T h cells slots) (hx : p.tables.exec = Jvm.exec) {a : Addr} {k : ClassId} {n : Int32} {vs : List Value} {d : Value} (V : Arv Z h a k .byte n vs d) (ha : a ∈ ws ∨ h0.size ≤ a) (sf : Safe Z EL vm0 h a) {j : Int32} {x : Int32} (x' : Int32) (hn : nar .byte x = x') (i : Nat) (hj : j.toNatClampNeg = i) (hin : ¬ j < 0 ∧ j < n) (hi : i < vs.length)
    (pc' : Nat) (hd : decode c.code pc = .ok (.bastore, 1)) (hp : pc + 1 = pc')
    (K : ∀ (T' : State) (h' : Heap), Wk p l e R s m args below meth c Z EL h0 ws vm0 T' h' cells slots → Keep h h' [a] → CHr Z EL vm0 h vm0 h' → Arv Z h' a k .byte n (vs.set i (.int x')) d → Goes p e below Post (T'.setTop (mkF m pc' ls st))) : Goes p e below Post (T.setTop (mkF m pc ls (.int x :: .int j :: .ref a :: st))) := by
  subst hp
  have hza := W.may ha
  obtain ⟨locs, X, N, eh, K0, es, O, hws, hZ, ⟨k0, hS, hk⟩, C⟩ := W
  obtain ⟨cl, A, q1, S, q3, H, G⟩ := V
  obtain ⟨T', h', X', e', Wr', stp⟩ := RoadKit.stB X hx hZ eh A (j := j) (inb_of S hin) (g := mkF m pc ls (.int x :: .int j :: .ref a :: st)) rfl rfl hd
  rw [show nar .byte x = x' from hn] at Wr'
  have C1 := CHr.wr Wr' sf C.1
  exact Goes.go stp (K T' h' ⟨_, X', Fr.snoc X' N hza, e', K0.wr Wr' ha, es, O, hws, hZ, ⟨k0, hS, Nat.le_trans hk (Keep.of_wr Wr').1⟩, C.trans C1⟩ (Keep.of_wr Wr') C1 (Arv.set A q1 S q3 H G (by rw [← hn]; exact fits_nar_byte _) Wr' i hj hi))
theorem Wk.caload (W : Wk p l e R s m args below meth c Z EL h0 ws vm0 T h cells slots) (hx : p.tables.exec = Jvm.exec) {a : Addr} {k : ClassId} {n : Int32} {vs : List Value} {d : Value} (V : Arv Z h a k .char n vs d) {j : Int32} (hin : ¬ j < 0 ∧ j < n) (v : Value) (hv : vs.getD j.toNatClampNeg d = v)
    (pc' : Nat) (hd : decode c.code pc = .ok (.caload, 1)) (hp : pc + 1 = pc') (K : Goes p e below Post (T.setTop (mkF m pc' ls (v :: st)))) : Goes p e below Post (T.setTop (mkF m pc ls (.int j :: .ref a :: st))) := by
  subst hp
  obtain ⟨locs, X, N, eh, K0, es, O, hws, hZ, -, C⟩ := W
  obtain ⟨cl, A, q1, S, q3, H, G⟩ := V
  exact Goes.go (fun tg k => X.caload hx (j := j) (v := v) (by rw [eh]; exact A.1) (State.isArrayOf_alike hZ.alike A.2.1) A.2.2 (inb_of S hin) (H.at (inb_of S hin) hv) (g := mkF m pc ls (.int j :: .ref a :: st)) rfl rfl hd tg k) K
theorem Wk.iaload (W : Wk p l e R s m args below meth c Z EL h0 ws vm0 T h cells slots) (hx : p.tables.exec = Jvm.exec) {a : Addr} {k : ClassId} {n : Int32} {vs : List Value} {d : Value} (V : Arv Z h a k .int n vs d) {j : Int32} (hin : ¬ j < 0 ∧ j < n) (v : Value) (hv : vs.getD j.toNatClampNeg d = v)
    (pc' : Nat) (hd : decode c.code pc = .ok (.iaload, 1)) (hp : pc + 1 = pc') (K : Goes p e below Post (T.setTop (mkF m pc' ls (v :: st)))) : Goes p e below Post (T.setTop (mkF m pc ls (.int j :: .ref a :: st))) := by
  subst hp
  obtain ⟨locs, X, N, eh, K0, es, O, hws, hZ, -, C⟩ := W
  obtain ⟨cl, A, q1, S, q3, H, G⟩ := V
  exact Goes.go (fun tg k => X.iaload hx (j := j) (v := v) (by rw [eh]; exact A.1) (State.isArrayOf_alike hZ.alike A.2.1) A.2.2 (inb_of S hin) (H.at (inb_of S hin) hv) (g := mkF m pc ls (.int j :: .ref a :: st)) rfl rfl hd tg k) K
theorem Wk.laload (W : Wk p l e R s m args below meth c Z EL h0 ws vm0 T h cells slots) (hx : p.tables.exec = Jvm.exec) {a : Addr} {k : ClassId} {n : Int32} {vs : List Value} {d : Value} (V : Arv Z h a k .long n vs d) {j : Int32} (hin : ¬ j < 0 ∧ j < n) (v : Value) (hv : vs.getD j.toNatClampNeg d = v)
    (pc' : Nat) (hd : decode c.code pc = .ok (.laload, 1)) (hp : pc + 1 = pc') (K : Goes p e below Post (T.setTop (mkF m pc' ls (v :: st)))) : Goes p e below Post (T.setTop (mkF m pc ls (.int j :: .ref a :: st))) := by
  subst hp
  obtain ⟨locs, X, N, eh, K0, es, O, hws, hZ, -, C⟩ := W
  obtain ⟨cl, A, q1, S, q3, H, G⟩ := V
  exact Goes.go (fun tg k => X.laload hx (j := j) (v := v) (by rw [eh]; exact A.1) (State.isArrayOf_alike hZ.alike A.2.1) A.2.2 (inb_of S hin) (H.at (inb_of S hin) hv) (g := mkF m pc ls (.int j :: .ref a :: st)) rfl rfl hd tg k) K
theorem Wk.baload (W : Wk p l e R s m args below meth c Z EL h0 ws vm0 T h cells slots) (hx : p.tables.exec = Jvm.exec) {a : Addr} {k : ClassId} {n : Int32} {vs : List Value} {d : Value} (V : Arv Z h a k .byte n vs d) {j : Int32} (hin : ¬ j < 0 ∧ j < n) (v : Value) (hv : vs.getD j.toNatClampNeg d = v)
    (pc' : Nat) (hd : decode c.code pc = .ok (.baload, 1)) (hp : pc + 1 = pc') (K : Goes p e below Post (T.setTop (mkF m pc' ls (v :: st)))) : Goes p e below Post (T.setTop (mkF m pc ls (.int j :: .ref a :: st))) := by
  subst hp
  obtain ⟨locs, X, N, eh, K0, es, O, hws, hZ, -, C⟩ := W
  obtain ⟨cl, A, q1, S, q3, H, G⟩ := V
  exact Goes.go (fun tg k => X.baloadBytes hx (j := j) (v := v) (by rw [eh]; exact A.1) (State.isArrayOf_alike hZ.alike A.2.1) A.2.2 (inb_of S hin) (H.at (inb_of S hin) hv) (g := mkF m pc ls (.int j :: .ref a :: st)) rfl rfl hd tg k) K
theorem Wk.arraylength (W : Wk p l e R s m args below meth c Z EL h0 ws vm0 T h cells slots) (hx : p.tables.exec = Jvm.exec) {a : Addr} {k : ClassId} {ty : FieldType} {n : Int32} {vs : List Value} {d : Value} (V : Arv Z h a k ty n vs d)
    (pc' : Nat) (hd : decode c.code pc = .ok (.arraylength, 1)) (hp : pc + 1 = pc') (K : Goes p e below Post (T.setTop (mkF m pc' ls (.int n :: st)))) : Goes p e below Post (T.setTop (mkF m pc ls (.ref a :: st))) := by
  subst hp
  obtain ⟨locs, X, N, eh, K0, es, O, hws, hZ, -, C⟩ := W
  obtain ⟨cl, A, q1, S, q3, H, G⟩ := V
  refine Goes.go (fun tg k => X.arraylength hx (by rw [eh]; exact A.1) (State.isArrayOf_alike hZ.alike A.2.1) (g := mkF m pc ls (.ref a :: st)) rfl rfl hd tg ?_) K
  rw [len_of S q3]; exact k
theorem Wk.getF (W : Wk p l e R s m args below meth c Z EL h0 ws vm0 T h cells slots) (hx : p.tables.exec = Jvm.exec) (ho : Z.vm.findClass own = some m.cls) {R0 O n d host : String} {index : Nat} (w : (Cond.fieldLink own index R0 n d).before a0 Z = true ∨ (Cond.fieldLinkNest own index R0 n d host).before a0 Z = true) (via : Via Z R0 O n d)
    {a : Addr} {v : Value} (F : Fld Z h a O n d v) (pc' : Nat) (hd : decode c.code pc = .ok (.getfield index, 3)) (hp : pc + 3 = pc')
    (K : ∀ (T' : State), Wk p l e R s m args below meth c Z EL h0 ws vm0 T' h cells slots → Goes p e below Post (T'.setTop (mkF m pc' ls (v :: st)))) : Goes p e below Post (T.setTop (mkF m pc ls (.ref a :: st))) := by
  subst hp
  have ho' := W.wown ho
  obtain ⟨locs, X, N, eh, r⟩ := W
  obtain ⟨hK0, hes, hO, hws, hZ, r2⟩ := r
  obtain ⟨T', X', e', stp⟩ := RoadKit.getF X hx hZ ho' w via eh F (g := mkF m pc ls (.ref a :: st)) rfl rfl hd
  exact Goes.go stp (K T' ⟨locs, X', N, e', hK0, hes, hO, hws, hZ, r2⟩)
theorem Wk.getS (W : Wk p l e R s m args below meth c Z EL h0 ws vm0 T h cells slots) (hx : p.tables.exec = Jvm.exec) (ho : Z.vm.findClass own = some m.cls) {R0 O n d : String} {index : Nat} (w : (Cond.fieldLink own index R0 n d).before a0 Z = true) (via : Via Z R0 O n d)
    {v : Value} (F : Sta Z h O n d v) (pc' : Nat) (hd : decode c.code pc = .ok (.getstatic index, 3)) (hp : pc + 3 = pc')
    (K : ∀ (T' : State), Wk p l e R s m args below meth c Z EL h0 ws vm0 T' h cells slots → Goes p e below Post (T'.setTop (mkF m pc' ls (v :: st)))) : Goes p e below Post (T.setTop (mkF m pc ls st)) := by
  subst hp
  have ho' := W.wown ho
  obtain ⟨locs, X, N, eh, r⟩ := W
  obtain ⟨hK0, hes, hO, hws, hZ, r2⟩ := r
  obtain ⟨T', X', e', stp⟩ := RoadKit.getS (host := "") X hx hZ ho' w via eh F (g := mkF m pc ls st) rfl hd
  exact Goes.go stp (K T' ⟨locs, X', N, e', hK0, hes, hO, hws, hZ, r2⟩)
theorem Wk.putF (W : Wk p l e R s m args below meth c Z EL h0 ws vm0 T h cells slots) (hx : p.tables.exec = Jvm.exec) (ho : Z.vm.findClass own = some m.cls) {R0 O n d C : String} {index kk : Nat} {ty : FieldType} (w : (Cond.fieldLink own index R0 n d).before a0 Z = true) (via : Via Z R0 O n d)
    {a : Addr} {v old : Value} (v' : Value) (F : Fld Z h a O n d old) (E : Exa Z h a C) (L : (Cond.lays C O n d).before a0 Z = true ∨ ((Cond.laysFinal C O n d).before a0 Z = true ∧ own = O ∧ meth.name = "<init>")) (wi : (Cond.instantiable C kk).before a0 Z = true)
    (hty : parseFieldDescriptor d = some ty) (hn : narrow ty v = v') (hf : fits ty v' = true) (ha : a ∈ ws ∨ h0.size ≤ a) (sf : Safe Z EL vm0 h a) (pc' : Nat) (hd : decode c.code pc = .ok (.putfield index, 3)) (hp : pc + 3 = pc')
    (K : ∀ (T' : State) (h' : Heap), Wk p l e R s m args below meth c Z EL h0 ws vm0 T' h' cells slots → Wr h h' a (RoadKit.slotOf Z O n d) v' → CHr Z EL vm0 h vm0 h' → Goes p e below Post (T'.setTop (mkF m pc' ls st))) : Goes p e below Post (T.setTop (mkF m pc ls (v :: .ref a :: st))) := by
  subst hp
  have hza := W.may ha
  have ho' := W.wown ho
  obtain ⟨locs, X, N, eh, K0, es, O', hws, hZ, ⟨k0, hS, hk⟩, C'⟩ := W
  obtain ⟨T', h', X', e', Wr', stp⟩ := RoadKit.putFN X hx hZ ho' w via eh F E L wi hty hn hf (g := mkF m pc ls (v :: .ref a :: st)) rfl rfl hd
  have C1 := CHr.wr Wr' sf C'.1
  exact Goes.go stp (K T' h' ⟨_, X', Fr.snoc X' N hza, e', K0.wr Wr' ha, es, O', hws, hZ, ⟨k0, hS, Nat.le_trans hk (Keep.of_wr Wr').1⟩, C'.trans C1⟩ Wr' C1)
theorem Wk.initO (W : Wk p l e R s m args below meth c Z EL h0 ws vm0 T h cells slots) (hx : p.tables.exec = Jvm.exec) (ho : Z.vm.findClass own = some m.cls) {index : Nat} (w1 : (Cond.methodLink own index Lib.objectInit).before a0 Z = true) (w2 : (Cond.instanceMethod Lib.objectInit).before a0 Z = true) (w3 : (Cond.code Lib.objectInit ⟨#[0xb1]⟩ 1 none).before a0 Z = true)
    (hsz : ls.size = c.maxLocals) {a : Addr} (pc' : Nat) (hd : decode c.code pc = .ok (.invokespecial index, 3)) (hp : pc + 3 = pc') (hf : 1 ≤ R.frames) (Wd : Nat) (hW : (st.map fun v => v.category).sum ≤ Wd) (hl : Wd + 12 ≤ R.locals)
    (K : ∀ (T' : State), Wk p l e R s m args below meth c Z EL h0 ws vm0 T' h cells slots → Goes p e below Post (T'.setTop (mkF m pc' ls st))) : Goes p e below Post (T.setTop (mkF m pc ls (.ref a :: st))) := by
  subst hp
  have ho' := W.wown ho
  obtain ⟨locs, X, N, eh, r⟩ := W
  obtain ⟨hK0, hes, hO, hws, hZ, r2⟩ := r
  obtain ⟨T', X', e', stp⟩ := RoadKit.initO X hx hZ ho' w1 w2 w3 eh (g := mkF m pc ls (.ref a :: st)) rfl hsz rfl hd hf (W := Wd) (by show 2 * 0 + _ ≤ _; omega) hl
  exact Goes.go stp (K T' ⟨locs, X', N, e', hK0, hes, hO, hws, hZ, r2⟩)
theorem Wk.ldcI (W : Wk p l e R s m args below meth c Z EL h0 ws vm0 T h cells slots) (hx : p.tables.exec = Jvm.exec) (ho : Z.vm.findClass own = some m.cls) {index : Nat} {v : Int32} (w : (Cond.constant own index v).before a0 Z = true)
    (pc' : Nat) (hd : decode c.code pc = .ok (.ldc index, 2)) (hp : pc + 2 = pc') (K : Goes p e below Post (T.setTop (mkF m pc' ls (.int v :: st)))) : Goes p e below Post (T.setTop (mkF m pc ls st)) := by
  subst hp
  have ho' := W.wown ho
  have hZ := W.warm
  obtain ⟨locs, X, r⟩ := W
  exact Goes.go (X.ldcInt hx ho' (mvT (s := s.setVm vm0) hZ w) (g := mkF m pc ls st) rfl hd) K
theorem Wk.ldc2 (W : Wk p l e R s m args below meth c Z EL h0 ws vm0 T h cells slots) (hx : p.tables.exec = Jvm.exec) (ho : Z.vm.findClass own = some m.cls) {index : Nat} {v : Int64} (w : (Cond.constantLong own index v).before a0 Z = true)
    (pc' : Nat) (hd : decode c.code pc = .ok (.ldc2_w index, 3)) (hp : pc + 3 = pc') (K : Goes p e below Post (T.setTop (mkF m pc' ls (.long v :: st)))) : Goes p e below Post (T.setTop (mkF m pc ls st)) := by
  subst hp
  have ho' := W.wown ho
  have hZ := W.warm
  obtain ⟨locs, X, r⟩ := W
  exact Goes.go (X.ldc2Long hx ho' (mvT (s := s.setVm vm0) hZ w) (g := mkF m pc ls st) rfl hd) K
theorem Wk.castY (W : Wk p l e R s m args below meth c Z EL h0 ws vm0 T h cells slots) (hx : p.tables.exec = Jvm.exec) (ho : Z.vm.findClass own = some m.cls) {C : String} {index : Nat} (w : (Cond.classLink own index C).before a0 Z = true) {a : Addr} (F : Ins Z h a C true)
    (pc' : Nat) (hd : decode c.code pc = .ok (.checkcast index, 3)) (hp : pc + 3 = pc') (K : ∀ (T' : State), Wk p l e R s m args below meth c Z EL h0 ws vm0 T' h cells slots → Goes p e below Post (T'.setTop (mkF m pc' ls (.ref a :: st)))) : Goes p e below Post (T.setTop (mkF m pc ls (.ref a :: st))) := by
  subst hp
  have ho' := W.wown ho
  obtain ⟨locs, X, N, eh, r⟩ := W
  obtain ⟨hK0, hes, hO, hws, hZ, r2⟩ := r
  obtain ⟨T', X', e', stp⟩ := RoadKit.castY X hx hZ ho' w eh F (g := mkF m pc ls (.ref a :: st)) rfl rfl hd
  exact Goes.go stp (K T' ⟨locs, X', N, e', hK0, hes, hO, hws, hZ, r2⟩)
theorem Wk.instY (W : Wk p l e R s m args below meth c Z EL h0 ws vm0 T h cells slots) (hx : p.tables.exec = Jvm.exec) (ho : Z.vm.findClass own = some m.cls) {C : String} {index : Nat} (w : (Cond.classLink own index C).before a0 Z = true) {a : Addr} (F : Ins Z h a C true)
    (pc' : Nat) (hd : decode c.code pc = .ok (.instanceof index, 3)) (hp : pc + 3 = pc') (K : ∀ (T' : State), Wk p l e R s m args below meth c Z EL h0 ws vm0 T' h cells slots → Goes p e below Post (T'.setTop (mkF m pc' ls (.int 1 :: st)))) : Goes p e below Post (T.setTop (mkF m pc ls (.ref a :: st))) := by
  subst hp
  have ho' := W.wown ho
  obtain ⟨locs, X, N, eh, r⟩ := W
  obtain ⟨hK0, hes, hO, hws, hZ, r2⟩ := r
  obtain ⟨T', X', e', stp⟩ := RoadKit.instY X hx hZ ho' w eh F (g := mkF m pc ls (.ref a :: st)) rfl rfl hd
  exact Goes.go stp (K T' ⟨locs, X', N, e', hK0, hes, hO, hws, hZ, r2⟩)
theorem Wk.castNull (W : Wk p l e R s m args below meth c Z EL h0 ws vm0 T h cells slots) (hx : p.tables.exec = Jvm.exec) {index : Nat} (pc' : Nat) (hd : decode c.code pc = .ok (.checkcast index, 3)) (hp : pc + 3 = pc') (K : Goes p e below Post (T.setTop (mkF m pc' ls (.null :: st)))) : Goes p e below Post (T.setTop (mkF m pc ls (.null :: st))) := by
  subst hp
  obtain ⟨locs, X, r⟩ := W
  exact Goes.go (X.checkcastNull hx (g := mkF m pc ls (.null :: st)) rfl rfl hd) K
theorem Wk.instNull (W : Wk p l e R s m args below meth c Z EL h0 ws vm0 T h cells slots) (hx : p.tables.exec = Jvm.exec) {index : Nat} (pc' : Nat) (hd : decode c.code pc = .ok (.instanceof index, 3)) (hp : pc + 3 = pc') (K : Goes p e below Post (T.setTop (mkF m pc' ls (.int 0 :: st)))) : Goes p e below Post (T.setTop (mkF m pc ls (.null :: st))) := by
  subst hp
  obtain ⟨locs, X, r⟩ := W
  exact Goes.go (X.instanceofNull hx (g := mkF m pc ls (.null :: st)) rfl rfl hd) K
theorem Wk.instNo (W : Wk p l e R s m args below meth c Z EL h0 ws vm0 T h cells slots) (hx : p.tables.exec = Jvm.exec) (ho : Z.vm.findClass own = some m.cls) {C D : String} {index : Nat} (w : (Cond.classLink own index D).before a0 Z = true) {a : Addr} (E : Exa Z h a C) (F : ∃ c t, Z.vm.findClass C = some c ∧ Z.vm.findClass D = some t ∧ Z.vm.assignable c t = false)
    (pc' : Nat) (hd : decode c.code pc = .ok (.instanceof index, 3)) (hp : pc + 3 = pc') (K : ∀ (T' : State), Wk p l e R s m args below meth c Z EL h0 ws vm0 T' h cells slots → Goes p e below Post (T'.setTop (mkF m pc' ls (.int 0 :: st)))) : Goes p e below Post (T.setTop (mkF m pc ls (.ref a :: st))) := by
  subst hp
  have ho' := W.wown ho
  obtain ⟨locs, X, N, eh, r⟩ := W
  obtain ⟨hK0, hes, hO, hws, hZ, r2⟩ := r
  obtain ⟨T', X', e', stp⟩ := RoadKit.instNo X hx hZ ho' w eh E F (g := mkF m pc ls (.ref a :: st)) rfl rfl hd
  exact Goes.go stp (K T' ⟨locs, X', N, e', hK0, hes, hO, hws, hZ, r2⟩)
theorem Wk.newR (W : Wk p l e R s m args below meth c Z EL h0 ws vm0 T h cells slots) (hx : p.tables.exec = Jvm.exec) (ho : Z.vm.findClass own = some m.cls) {C : String} {index : Nat} (w1 : (Cond.classLink own index C).before a0 Z = true) (w2 : (Cond.arrayOver (.object C)).before a0 Z = true)
    (pc' : Nat) (hd : decode c.code pc = .ok (.anewarray index, 3)) {n : Int32} (hn : ¬ n < 0) (cap : Nat) (hcap : n.toNatClampNeg ≤ cap) (hp : pc + 3 = pc') (hb : cap * 8 ≤ 536870912) (hc : cells + 1 ≤ R.cells) (hl : slots + cap ≤ R.slots)
    (K : ∀ (T' : State) (h' : Heap) (a : Addr) (k : ClassId), Wk p l e R s m args below meth c Z EL h0 ws vm0 T' h' (cells + 1) (slots + cap) → Ext h h' → a = h.size → Arv Z h' a k (.object C) n (List.replicate cap .null) .null → Ovr Z k C → Safe Z EL vm0 h' a → Goes p e below Post (T'.setTop (mkF m pc' ls (.ref a :: st)))) : Goes p e below Post (T.setTop (mkF m pc ls (.int n :: st))) := by
  subst hp
  have ho' := W.wown ho
  obtain ⟨locs, X, N, eh, K0, es, O, hws, hZ, ⟨k0, hS, hk⟩, C'⟩ := W
  obtain ⟨T', h', cA, X', e', E, A, Ov, stp⟩ := RoadKit.newR X hx hZ ho' w1 w2 eh (g := mkF m pc ls (.int n :: st)) rfl hd rfl hn hcap hb hc hl
  exact Goes.go stp (K T' h' _ cA ⟨locs, X', N, e', K0.ext E, es, O, hws, hZ, ⟨k0, hS, Nat.le_trans hk E.1⟩, C'.trans (CHr.ext E C'.1)⟩ E rfl ((Arv.new A hn).pad (pad_rep [] _ cap)) Ov fun B => Safe.new (Nat.le_refl _) ((C'.1.step fun _ _ _ q => E.2 _ _ q).2 _ B))
theorem Wk.aastore (W : Wk p l e R s m args below meth c Z EL h0 ws vm0 T h cells slots) (hx : p.tables.exec = Jvm.exec) {a : Addr} {k : ClassId} {n : Int32} {vs : List Value} {d : Value} {C : String} (V : Arv Z h a k (.object C) n vs d) (ha : a ∈ ws ∨ h0.size ≤ a) {j : Int32} {x : Value} (hxr : x.isRef = true) (hst : ∀ cl : Cell, Arr Z h a cl (.object C) → cl.cls = k → Sto Z h a x) (i : Nat) (hj : j.toNatClampNeg = i) (hin : ¬ j < 0 ∧ j < n) (hi : i < vs.length)
    (pc' : Nat) (hd : decode c.code pc = .ok (.aastore, 1)) (hp : pc + 1 = pc')
    (K : ∀ (T' : State) (h' : Heap), Wk p l e R s m args below meth c Z EL h0 ws vm0 T' h' cells slots → Keep h h' [a] → CHr Z EL vm0 h vm0 h' → Arv Z h' a k (.object C) n (vs.set i x) d → Goes p e below Post (T'.setTop (mkF m pc' ls st))) : Goes p e below Post (T.setTop (mkF m pc ls (x :: .int j :: .ref a :: st))) := by
  subst hp
  have hza := W.may ha
  obtain ⟨locs, X, N, eh, K0, es, O, hws, hZ, ⟨k0, hS, hk⟩, C'⟩ := W
  obtain ⟨cl, A, q1, S, q3, H, G⟩ := V
  obtain ⟨T', h', X', e', Wr', stp⟩ := RoadKit.stR X hx hZ eh A (j := j) (inb_of S hin) rfl (hst cl A q1) (g := mkF m pc ls (x :: .int j :: .ref a :: st)) rfl rfl hd
  have C1 := CHr.wr Wr' (Safe.arr hZ.alike A (by intro q; cases q)) C'.1
  exact Goes.go stp (K T' h' ⟨_, X', Fr.snoc X' N hza, e', K0.wr Wr' ha, es, O, hws, hZ, ⟨k0, hS, Nat.le_trans hk (Keep.of_wr Wr').1⟩, C'.trans C1⟩ (Keep.of_wr Wr') C1 (Arv.set A q1 S q3 H G (by cases x <;> simp [Value.isRef] at hxr <;> rfl) Wr' i hj hi))
theorem Wk.arraycopy (W : Wk p l e R s m args below meth c Z EL h0 ws vm0 T h cells slots) (hx : p.tables.exec = Jvm.exec) (ho : Z.vm.findClass own = some m.cls) {index : Nat} (w1 : (Cond.methodLink own index Jvm.Stand.acN).before a0 Z = true) (w2 : (Cond.native Jvm.Stand.acN).before a0 Z = true) (w3 : (Cond.static Jvm.Stand.acN).before a0 Z = true) (w4 : (Cond.initialized "java/lang/System").before a0 Z = true)
    {a b : Addr} {k k' : ClassId} {ty : FieldType} {z z' sp dp nn : Int32} {vs vd : List Value} {dv dd : Value} (us : List Value) (V : Arv Z h a k ty z vs dv) (B : Arv Z h b k' ty z' vd dd) (hty : refKind ty = false) (h1 : ¬ sp < 0) (h2 : ¬ dp < 0) (h3 : ¬ nn < 0) (h4 : sp.toNatClampNeg + nn.toNatClampNeg ≤ z.toNatClampNeg) (h5 : dp.toNatClampNeg + nn.toNatClampNeg ≤ z'.toNatClampNeg)
    (hus : us = (List.range nn.toNatClampNeg).map fun i => vs.getD (sp.toNatClampNeg + i) dv) (hl : dp.toNatClampNeg + nn.toNatClampNeg ≤ vd.length) (hb : b ∈ ws ∨ h0.size ≤ b) (sf : Safe Z EL vm0 h b) (hsz : ls.size = c.maxLocals) (pc' : Nat) (hd : decode c.code pc = .ok (.invokestatic index, 3)) (hp : pc + 3 = pc') (hf : 1 ≤ R.frames) (Wd : Nat) (hW : (st.map fun v => v.category).sum ≤ Wd) (hlo : Wd + (nativeFrameWords "java/lang/System" "arraycopy" 5 + 11) ≤ R.locals)
    (K : ∀ (T' : State) (h' : Heap), Wk p l e R s m args below meth c Z EL h0 ws vm0 T' h' cells slots → Keep h h' [b] → CHr Z EL vm0 h vm0 h' → Arv Z h' b k' ty z' (vd.take dp.toNatClampNeg ++ us ++ vd.drop (dp.toNatClampNeg + nn.toNatClampNeg)) dd → Goes p e below Post (T'.setTop (mkF m pc' ls st))) : Goes p e below Post (T.setTop (mkF m pc ls (.int nn :: .int dp :: .ref b :: .int sp :: .ref a :: st))) := by
  subst hp
  have hzb := W.may hb
  have ho' := W.wown ho
  obtain ⟨locs, X, N, eh, K0, es, O, hws, hZ, ⟨k0, hS, hk⟩, C⟩ := W
  obtain ⟨T', h', L, X', e', N', K', B', stp⟩ := cpA X hx hZ ho' w1 w2 w3 w4 eh V B (Or.inl ⟨rfl, hty⟩) h1 h2 h3 h4 h5 hus hl N hzb (g := mkF m pc ls (.int nn :: .int dp :: .ref b :: .int sp :: .ref a :: st)) rfl hsz rfl hd hf (W := Wd) (by show 2 * 0 + _ ≤ _; omega) hlo
  have C1 := CHr.keep K' (fun x hx => by cases List.mem_singleton.mp hx; exact sf) C.1
  exact Goes.go stp (K T' h' ⟨L, X', N', e', K0.trans K' (fun x hx => by cases List.mem_singleton.mp hx; exact hb), es, O, hws, hZ, ⟨k0, hS, Nat.le_trans hk K'.1⟩, C.trans C1⟩ K' C1 B')
end Wk
/-- what a callee asks of the point and of its arguments; what it leaves -/
abbrev PreB (R : Room) (as' : Array Value) (h : Heap) (mc ms : Nat) : Pt → Array Value → Prop := fun A a => a = as' ∧ A.U.heap = h ∧ A.cells + mc ≤ R.cells ∧ A.slots + ms ≤ R.slots
abbrev PostB (Z : State) (h : Heap) (ws : List Addr) (Q : Option Value → Heap → Prop) (mc ms : Nat) : Pt → Array Value → Option Value → Pt → Prop := fun A _ v B => ∃ L, (Fr Z.heap.size L ∧ Keep h B.U.heap ws ∧ Q v B.U.heap) ∧ B.locs = A.locs ++ L ∧ B.cells = A.cells + mc ∧ B.slots = A.slots + ms
abbrev PostBW (Z : State) (EL : List (String × Nat)) (vm0 : Vm) (h : Heap) (ws : List Addr) (Q : Option Value → Heap → Prop) (mc ms : Nat) : Pt → Array Value → Option Value → Pt → Prop := fun A _ v B => ∃ L, (Fr Z.heap.size L ∧ Keep h B.U.heap ws ∧ Q v B.U.heap) ∧ B.locs = A.locs ++ L ∧ B.cells = A.cells + mc ∧ B.slots = A.slots + ms ∧ CHr Z EL vm0 h B.U.vm B.U.heap
/-- the end of a body that interns nothing -/
def PostN (s Z : State) (h0 : Heap) (ws : List Addr) (Q : Option Value → Heap → Prop) (mc ms : Nat) (o : Outcome) (U : State) : Prop :=
  ∃ v L, o = .returned v ∧ (Fr Z.heap.size L ∧ Keep h0 U.heap ws ∧ Q v U.heap) ∧ FrameEnd s o U L mc ms
/-- the end of a body that may intern -/
def PostW (s Z : State) (EL : List (String × Nat)) (h0 : Heap) (ws : List Addr) (Q : Option Value → Heap → Prop) (mc ms : Nat) (o : Outcome) (U : State) : Prop :=
  ∃ v L, o = .returned v ∧ (Fr Z.heap.size L ∧ Keep h0 U.heap ws ∧ Q v U.heap) ∧ CHr Z EL s.vm h0 U.vm U.heap ∧ ReturnedEndW s o U L mc ms
/-- the contract of a body that interns nothing -/
def CN (wl : List Cond) (l : Launch) (Z : State) (y : MethodName) (bytes : ByteArray) (ml : Nat) (ret : Option FieldType) (rm : Room) (as' : Array Value) (h0 : Heap) (ws : List Addr) (Q : Option Value → Heap → Prop) : Prop :=
  MetFree l y (head1 (Cond.code y bytes ml ret :: wl) rm) (fun a U => a = as' ∧ Z.Warmed39 U.vm ∧ U.heap = h0) (fun _ _ _ _ _ => True) (fun _ U o U' => PostN U Z h0 ws Q rm.cells rm.slots o U')
/-- the contract of a body that may intern -/
def CW (wl : List Cond) (l : Launch) (Z : State) (EL : List (String × Nat)) (y : MethodName) (bytes : ByteArray) (ml : Nat) (ret : Option FieldType) (rm : Room) (as' : Array Value) (h0 : Heap) (ws : List Addr) (Q : Option Value → Heap → Prop) : Prop :=
  MetFree l y (head1 (Cond.code y bytes ml ret :: wl) rm) (fun a U => a = as' ∧ Z.Warmed39 U.vm ∧ U.heap = h0 ∧ CHv Z EL U.vm h0 ∧ ∀ x ∈ ws, Safe Z EL U.vm h0 x) (fun _ _ _ _ _ => True) (fun _ U o U' => PostW U Z EL h0 ws Q rm.cells rm.slots o U')
section Calls
variable {p : Program} {l : Launch} {e : Env} {R : Room} {s : State} {m : MethodId} {args : Array Value} {below : List Frame} {meth : Method} {c : Code} {Z : State} {EL : List (String × Nat)} {h0 : Heap} {ws : List Addr} {vm0 : Vm} {T : State} {h : Heap} {cells slots : Nat} {a0 : Array Value} {Post : Outcome → State → Prop} {pc : Nat} {ls : Array Slot} {st rest : List Value} {own : String}
theorem CN.back {y : MethodName} {bytes : ByteArray} {ml : Nat} {ret : Option FieldType} {rm : Room} {as' : Array Value} {len Wd : Nat} {Q : Option Value → Heap → Prop} (hM : CN [] l Z y bytes ml ret rm as' h ws Q) (hZ : Z.Warmed39 vm0) (wc : (Cond.code y bytes ml ret).before a0 Z = true) (wz : (Cond.initialized y.cls).before a0 Z = true) (hf : rm.frames + 1 ≤ R.frames) (hl : Wd + (ml + 11) + rm.locals ≤ R.locals) :
    Back l R p e below (s.setVm vm0) args y len Wd (PreB R as' h rm.cells rm.slots) (PostB Z h ws Q rm.cells rm.slots) :=
  backOf (s := s.setVm vm0) (Q := fun v h' L => Fr Z.heap.size L ∧ Keep h h' ws ∧ Q v h') hM hZ wc wz hf hl
theorem CW.back {y : MethodName} {bytes : ByteArray} {ml : Nat} {ret : Option FieldType} {rm : Room} {as' : Array Value} {len Wd : Nat} {Q : Option Value → Heap → Prop} (hM : CW [] l Z EL y bytes ml ret rm as' h ws Q) (hZ : Z.Warmed39 vm0) (wc : (Cond.code y bytes ml ret).before a0 Z = true) (wz : (Cond.initialized y.cls).before a0 Z = true) (hf : rm.frames + 1 ≤ R.frames) (hl : Wd + (ml + 11) + rm.locals ≤ R.locals)
    (hEL : EW Z a0 EL) (H : CHv Z EL vm0 h) (hlt : ∀ x ∈ ws, x < h.size) (hsf : ∀ x ∈ ws, Safe Z EL vm0 h x) :
    BackS l R p e below (s.setVm vm0) args y len Wd (PreB R as' h rm.cells rm.slots) (PostBW Z EL vm0 h ws Q rm.cells rm.slots) :=
  BackS.of_freeW (bytes := bytes) (maxL := ml) (ret := ret) (E := fun _ first o t L k n => k = rm.cells ∧ n = rm.slots ∧ (∃ v, o = .returned v ∧ (Fr Z.heap.size L ∧ Keep h t.heap ws ∧ Q v t.heap)) ∧ CHr Z EL first.vm h t.vm t.heap) hM hf hl
    (fun m meth c A a Y hp => have hU : Z.Warmed39 A.U.vm := wtrans (s := s.setVm vm0) hZ Y.warmed
      ⟨by show (Cond.and _ .tt).before a A.U = true; rw [Cond.before_and, mv hU wc]; rfl, mv hU wc, mv hU wz, hp.2.2.1, hp.2.2.2⟩)
    (fun m meth c A a g mk Y hp => ⟨hp.1, wtrans (s := s.setVm vm0) hZ Y.warmed, hp.2.1, (CHv.at Y hZ hEL H).1, fun x hx => (CHv.at Y hZ hEL H).safe (hlt x hx) (hsf x hx)⟩) (fun _ _ _ _ _ _ _ _ _ => trivial)
    (fun _ _ _ _ ⟨v, L, h1, h2, h3, h4⟩ => ⟨L, _, _, h4, rfl, rfl, ⟨v, h1, h2⟩, h3⟩)
    (fun m meth c A a g mk v t L k n Y hp _ _ ⟨e1, e2, ⟨v', e3, e4⟩, e5⟩ => by
      cases e3; subst e1 e2
      exact ⟨L, e4, rfl, rfl, rfl, (CHv.at Y hZ hEL H).trans e5⟩)
theorem Wk.callS (W : Wk p l e R s m args below meth c Z EL h0 ws vm0 T h cells slots) (hx : p.tables.exec = Jvm.exec) (ho : Z.vm.findClass own = some m.cls) {index : Nat} {y : MethodName} {bytes : ByteArray} {ml : Nat} {ret : Option FieldType} (w1 : (Cond.methodLink own index y).before a0 Z = true) (w2 : (Cond.static y).before a0 Z = true) (w3 : (Cond.initialized y.cls).before a0 Z = true) (w4 : (Cond.code y bytes ml ret).before a0 Z = true) (hy : y.cls ≠ "java/lang/invoke/MethodHandle" ∧ y.cls ≠ "java/lang/invoke/VarHandle")
    {Wd mc ms : Nat} {as' : Array Value} {ws' : List Addr} {Q : Option Value → Heap → Prop} (hK : Back l R p e below (s.setVm vm0) args y 3 Wd (PreB R as' h mc ms) (PostB Z h ws' Q mc ms)) (hsz : ls.size = c.maxLocals) (argsL rest : List Value) (hlen : ∀ sig, parseMethodDescriptor y.desc = some sig → argsL.length = sig.parameters.length) (hst : st = argsL.reverse ++ rest) (has : argsL.toArray = as') (hW : (rest.map fun v => v.category).sum ≤ Wd) (pc' : Nat) (hd : decode c.code pc = .ok (.invokestatic index, 3)) (hp : pc + 3 = pc') (hc : cells + mc ≤ R.cells) (hs : slots + ms ≤ R.slots) (hws' : ∀ x ∈ ws', (x ∈ ws ∨ h0.size ≤ x) ∧ Safe Z EL vm0 h x)
    (K : ∀ (v : Option Value) (T' : State) (h' : Heap), Wk p l e R s m args below meth c Z EL h0 ws vm0 T' h' (cells + mc) (slots + ms) → Keep h h' ws' → CHr Z EL vm0 h vm0 h' → Q v h' → Goes p e below Post (T'.setTop (mkF m pc' ls (v.toList ++ rest)))) : Goes p e below Post (T.setTop (mkF m pc ls st)) := by
  subst hp hst
  have ho' := W.wown ho
  obtain ⟨locs, X, N, eh, K0, es, O, hws, hZ, ⟨k0, hS, hk⟩, C⟩ := W
  obtain ⟨v, _, ⟨T1, L1', k1, n1⟩, -, X1, ⟨L1, ⟨q1, q2, q3⟩, l1, y1, z1⟩, stp⟩ := Jvm.LawKit.callS X hx ho' (mvT (s := s.setVm vm0) hZ w1) (mvT (s := s.setVm vm0) hZ w2) (mvT (s := s.setVm vm0) hZ w3) (mvT (s := s.setVm vm0) hZ w4) hy hK (g := mkF m pc ls (argsL.reverse ++ rest)) rfl hsz hlen rfl (by show 2 * 0 + _ ≤ _; omega) hd (fun _ _ => ⟨has, eh, hc, hs⟩)
  dsimp only [Pt.U, Pt.locs, Pt.cells, Pt.slots] at X1 l1 y1 z1 stp q1 q2 q3
  subst l1 y1 z1
  have C1 := CHr.keep q2 (fun x hx => (hws' x hx).2) C.1
  exact Goes.go stp (K v T1 T1.heap ⟨_, X1, N.app q1, rfl, K0.trans q2 (fun x hx => (hws' x hx).1), es, O, hws, hZ, ⟨k0, hS, Nat.le_trans hk q2.1⟩, C.trans C1⟩ q2 C1 q3)
theorem Wk.special (W : Wk p l e R s m args below meth c Z EL h0 ws vm0 T h cells slots) (hx : p.tables.exec = Jvm.exec) (ho : Z.vm.findClass own = some m.cls) {index : Nat} {y : MethodName} (hy1 : y.name = "<init>") {bytes : ByteArray} {ml : Nat} (w1 : (Cond.methodLink own index y).before a0 Z = true) (w2 : (Cond.instanceMethod y).before a0 Z = true) (w4 : (Cond.code y bytes ml none).before a0 Z = true) (hy : y.cls ≠ "java/lang/invoke/MethodHandle" ∧ y.cls ≠ "java/lang/invoke/VarHandle")
    {Wd mc ms : Nat} {as' : Array Value} {ws' : List Addr} {Q : Option Value → Heap → Prop} (hK : Back l R p e below (s.setVm vm0) args y 3 Wd (PreB R as' h mc ms) (PostB Z h ws' Q mc ms)) (a : Addr) (hsz : ls.size = c.maxLocals) (argsL rest : List Value) (hlen : ∀ sig, parseMethodDescriptor y.desc = some sig → argsL.length = sig.parameters.length) (hst : st = argsL.reverse ++ .ref a :: rest) (has : (Value.ref a :: argsL).toArray = as') (hW : (rest.map fun v => v.category).sum ≤ Wd) (pc' : Nat) (hd : decode c.code pc = .ok (.invokespecial index, 3)) (hp : pc + 3 = pc') (hc : cells + mc ≤ R.cells) (hs : slots + ms ≤ R.slots) (hws' : ∀ x ∈ ws', (x ∈ ws ∨ h0.size ≤ x) ∧ Safe Z EL vm0 h x)
    (K : ∀ (v : Option Value) (T' : State) (h' : Heap), Wk p l e R s m args below meth c Z EL h0 ws vm0 T' h' (cells + mc) (slots + ms) → Keep h h' ws' → CHr Z EL vm0 h vm0 h' → Q v h' → Goes p e below Post (T'.setTop (mkF m pc' ls (v.toList ++ rest)))) : Goes p e below Post (T.setTop (mkF m pc ls st)) := by
  subst hp hst
  have ho' := W.wown ho
  obtain ⟨locs, X, N, eh, K0, es, O, hws, hZ, ⟨k0, hS, hk⟩, C⟩ := W
  obtain ⟨v, _, ⟨T1, L1', k1, n1⟩, -, X1, ⟨L1, ⟨q1, q2, q3⟩, l1, y1, z1⟩, stp⟩ := X.specialBack hx hy1 ho' (mvT (s := s.setVm vm0) hZ w1) (mvT (s := s.setVm vm0) hZ w2) (mvT (s := s.setVm vm0) hZ w4) hy hK (g := mkF m pc ls (argsL.reverse ++ .ref a :: rest)) rfl hsz (Steps.refl _) hlen rfl (by show 2 * 0 + _ ≤ _; omega) hd (fun _ _ => ⟨has, eh, hc, hs⟩)
  dsimp only [Pt.U, Pt.locs, Pt.cells, Pt.slots] at X1 l1 y1 z1 stp q1 q2 q3
  subst l1 y1 z1
  have C1 := CHr.keep q2 (fun x hx => (hws' x hx).2) C.1
  exact Goes.run stp (K v T1 T1.heap ⟨_, X1, N.app q1, rfl, K0.trans q2 (fun x hx => (hws' x hx).1), es, O, hws, hZ, ⟨k0, hS, Nat.le_trans hk q2.1⟩, C.trans C1⟩ q2 C1 q3)
theorem Wk.virtual (W : Wk p l e R s m args below meth c Z EL h0 ws vm0 T h cells slots) (hx : p.tables.exec = Jvm.exec) (ho : Z.vm.findClass own = some m.cls) {index : Nat} {C' : String} {y z : MethodName} (w1 : (Cond.methodLink own index y).before a0 Z = true) (w2 : (Cond.declares y).before a0 Z = true) (w3 : (Cond.selects C' y z).before a0 Z = true) (w4 : (Cond.instanceMethod z).before a0 Z = true) (nf : NotFace (s.setVm vm0) y) (hy : y.cls ≠ "java/lang/invoke/MethodHandle" ∧ y.cls ≠ "java/lang/invoke/VarHandle")
    {Wd mc ms : Nat} {as' : Array Value} {ws' : List Addr} {Q : Option Value → Heap → Prop} (hK : Back l R p e below (s.setVm vm0) args z 3 Wd (PreB R as' h mc ms) (PostB Z h ws' Q mc ms)) {a : Addr} (E : Exa Z h a C') (hsz : ls.size = c.maxLocals) (argsL rest : List Value) (hlen : ∀ sig, parseMethodDescriptor y.desc = some sig → argsL.length = sig.parameters.length) (hst : st = argsL.reverse ++ .ref a :: rest) (has : (Value.ref a :: argsL).toArray = as') (hW : (rest.map fun v => v.category).sum ≤ Wd) (pc' : Nat) (hd : decode c.code pc = .ok (.invokevirtual index, 3)) (hp : pc + 3 = pc') (hc : cells + mc ≤ R.cells) (hs : slots + ms ≤ R.slots) (hws' : ∀ x ∈ ws', (x ∈ ws ∨ h0.size ≤ x) ∧ Safe Z EL vm0 h x)
    (K : ∀ (v : Option Value) (T' : State) (h' : Heap), Wk p l e R s m args below meth c Z EL h0 ws vm0 T' h' (cells + mc) (slots + ms) → Keep h h' ws' → CHr Z EL vm0 h vm0 h' → Q v h' → Goes p e below Post (T'.setTop (mkF m pc' ls (v.toList ++ rest)))) : Goes p e below Post (T.setTop (mkF m pc ls st)) := by
  subst hp hst
  have ho' := W.wown ho
  obtain ⟨locs, X, N, eh, K0, es, O, hws, hZ, ⟨k0, hS, hk⟩, C⟩ := W
  obtain ⟨cq, kq, qa, qb, qc⟩ := isOf (s := s.setVm vm0) hZ eh E
  obtain ⟨v, _, ⟨T1, L1', k1, n1⟩, -, X1, ⟨L1, ⟨q1, q2, q3⟩, l1, y1, z1⟩, stp⟩ := X.virtualBack hx ho' (mvT (s := s.setVm vm0) hZ w1) (mvT (s := s.setVm vm0) hZ w2) nf (mvT (s := s.setVm vm0) hZ w3) (mvT (s := s.setVm vm0) hZ w4) hy hK qa qc (g := mkF m pc ls (argsL.reverse ++ .ref a :: rest)) rfl hsz (Steps.refl _) hlen rfl (by show 2 * 0 + _ ≤ _; omega) hd (fun _ _ => ⟨has, eh, hc, hs⟩)
  dsimp only [Pt.U, Pt.locs, Pt.cells, Pt.slots] at X1 l1 y1 z1 stp q1 q2 q3
  subst l1 y1 z1
  have C1 := CHr.keep q2 (fun x hx => (hws' x hx).2) C.1
  exact Goes.run stp (K v T1 T1.heap ⟨_, X1, N.app q1, rfl, K0.trans q2 (fun x hx => (hws' x hx).1), es, O, hws, hZ, ⟨k0, hS, Nat.le_trans hk q2.1⟩, C.trans C1⟩ q2 C1 q3)
theorem Wk.priv (W : Wk p l e R s m args below meth c Z EL h0 ws vm0 T h cells slots) (hx : p.tables.exec = Jvm.exec) (ho : Z.vm.findClass own = some m.cls) {index : Nat} {y : MethodName} {bytes : ByteArray} {ml : Nat} {ret : Option FieldType} (w1 : (Cond.methodLink own index y).before a0 Z = true) (w2 : (Cond.instanceMethod y).before a0 Z = true) (w3 : (Cond.selects y.cls y y).before a0 Z = true) (w5 : (Cond.privateMethod y).before a0 Z = true) (w4 : (Cond.code y bytes ml ret).before a0 Z = true) (hy : y.cls ≠ "java/lang/invoke/MethodHandle" ∧ y.cls ≠ "java/lang/invoke/VarHandle")
    {Wd mc ms : Nat} {as' : Array Value} {ws' : List Addr} {Q : Option Value → Heap → Prop} (hK : Back l R p e below (s.setVm vm0) args y 3 Wd (PreB R as' h mc ms) (PostB Z h ws' Q mc ms)) {a : Addr} {C' : String} (E : Exa Z h a C') (hsz : ls.size = c.maxLocals) (argsL rest : List Value) (hlen : ∀ sig, parseMethodDescriptor y.desc = some sig → argsL.length = sig.parameters.length) (hst : st = argsL.reverse ++ .ref a :: rest) (has : (Value.ref a :: argsL).toArray = as') (hW : (rest.map fun v => v.category).sum ≤ Wd) (pc' : Nat) (hd : decode c.code pc = .ok (.invokevirtual index, 3)) (hp : pc + 3 = pc') (hc : cells + mc ≤ R.cells) (hs : slots + ms ≤ R.slots) (hws' : ∀ x ∈ ws', (x ∈ ws ∨ h0.size ≤ x) ∧ Safe Z EL vm0 h x)
    (K : ∀ (v : Option Value) (T' : State) (h' : Heap), Wk p l e R s m args below meth c Z EL h0 ws vm0 T' h' (cells + mc) (slots + ms) → Keep h h' ws' → CHr Z EL vm0 h vm0 h' → Q v h' → Goes p e below Post (T'.setTop (mkF m pc' ls (v.toList ++ rest)))) : Goes p e below Post (T.setTop (mkF m pc ls st)) := by
  subst hp hst
  have ho' := W.wown ho
  obtain ⟨locs, X, N, eh, K0, es, O, hws, hZ, ⟨k0, hS, hk⟩, C⟩ := W
  obtain ⟨cq, hcq, hcv⟩ := E.cell
  obtain ⟨v, _, ⟨T1, L1', k1, n1⟩, -, X1, ⟨L1, ⟨q1, q2, q3⟩, l1, y1, z1⟩, stp⟩ := X.privateBack hx ho' (mvT (s := s.setVm vm0) hZ w1) (mvT (s := s.setVm vm0) hZ w2) (mvT (s := s.setVm vm0) hZ w3) (Cond.privateMethod_at (mvP (s := s.setVm vm0) hZ w5 (args := #[]))) (mvT (s := s.setVm vm0) hZ w4) hy hK (g := mkF m pc ls (argsL.reverse ++ .ref a :: rest)) rfl hsz (Steps.refl _) (by rw [eh]; exact hcq) hcv hlen rfl (by show 2 * 0 + _ ≤ _; omega) hd (fun _ _ => ⟨has, eh, hc, hs⟩)
  dsimp only [Pt.U, Pt.locs, Pt.cells, Pt.slots] at X1 l1 y1 z1 stp q1 q2 q3
  subst l1 y1 z1
  have C1 := CHr.keep q2 (fun x hx => (hws' x hx).2) C.1
  exact Goes.run stp (K v T1 T1.heap ⟨_, X1, N.app q1, rfl, K0.trans q2 (fun x hx => (hws' x hx).1), es, O, hws, hZ, ⟨k0, hS, Nat.le_trans hk q2.1⟩, C.trans C1⟩ q2 C1 q3)
theorem Wk.iface (W : Wk p l e R s m args below meth c Z EL h0 ws vm0 T h cells slots) (hx : p.tables.exec = Jvm.exec) (ho : Z.vm.findClass own = some m.cls) {index count : Nat} {C' : String} {y z : MethodName} (w1 : (Cond.methodLink own index y).before a0 Z = true) (w2 : (Cond.declares y).before a0 Z = true) (w3 : (Cond.interfaceMethod y.cls y.cls y.name y.desc).before a0 Z = true) (w4 : (Cond.selects C' y z).before a0 Z = true) (w5 : (Cond.instanceMethod z).before a0 Z = true) (w6 : (Cond.publicMethod z).before a0 Z = true) (w7 : (Cond.unhidden C' y.name y.desc).before a0 Z = true) (w8 : (Cond.castable C' y.cls).before a0 Z = true) (hI : ((Cond.interfaceMethod y.cls y.cls y.name y.desc).onTables && (Cond.interfaceMethod y.cls y.cls y.name y.desc).keepsFace) = true) (hy : y.cls ≠ "java/lang/invoke/MethodHandle" ∧ y.cls ≠ "java/lang/invoke/VarHandle")
    {Wd mc ms : Nat} {as' : Array Value} {ws' : List Addr} {Q : Option Value → Heap → Prop} (hK : Back l R p e below (s.setVm vm0) args z 5 Wd (PreB R as' h mc ms) (PostB Z h ws' Q mc ms)) {a : Addr} (E : Exa Z h a C') (hsz : ls.size = c.maxLocals) (argsL rest : List Value) (hlen : ∀ sig, parseMethodDescriptor y.desc = some sig → argsL.length = sig.parameters.length) (hst : st = argsL.reverse ++ .ref a :: rest) (has : (Value.ref a :: argsL).toArray = as') (hW : (rest.map fun v => v.category).sum ≤ Wd) (pc' : Nat) (hd : decode c.code pc = .ok (.invokeinterface index count, 5)) (hp : pc + 5 = pc') (hc : cells + mc ≤ R.cells) (hs : slots + ms ≤ R.slots) (hws' : ∀ x ∈ ws', (x ∈ ws ∨ h0.size ≤ x) ∧ Safe Z EL vm0 h x)
    (K : ∀ (v : Option Value) (T' : State) (h' : Heap), Wk p l e R s m args below meth c Z EL h0 ws vm0 T' h' (cells + mc) (slots + ms) → Keep h h' ws' → CHr Z EL vm0 h vm0 h' → Q v h' → Goes p e below Post (T'.setTop (mkF m pc' ls (v.toList ++ rest)))) : Goes p e below Post (T.setTop (mkF m pc ls st)) := by
  subst hp hst
  have ho' := W.wown ho
  obtain ⟨locs, X, N, eh, K0, es, O, hws, hZ, ⟨k0, hS, hk⟩, C⟩ := W
  obtain ⟨cq, kq, qa, qb, qc⟩ := isOf (s := s.setVm vm0) hZ eh E
  obtain ⟨v, _, ⟨T1, L1', k1, n1⟩, -, X1, ⟨L1, ⟨q1, q2, q3⟩, l1, y1, z1⟩, stp⟩ := X.interfaceBack hx ho' (mvT (s := s.setVm vm0) hZ w1) (mvT (s := s.setVm vm0) hZ w2) (mvT (s := s.setVm vm0) hZ w3 hI) (mvT (s := s.setVm vm0) hZ w4) (mvT (s := s.setVm vm0) hZ w5) (mvT (s := s.setVm vm0) hZ w6) (mvT (s := s.setVm vm0) hZ w7) (mvT (s := s.setVm vm0) hZ w8) hy hK qa qb qc (g := mkF m pc ls (argsL.reverse ++ .ref a :: rest)) rfl hsz (Steps.refl _) hlen rfl (by show 2 * 0 + _ ≤ _; omega) hd (fun _ _ => ⟨has, eh, hc, hs⟩)
  dsimp only [Pt.U, Pt.locs, Pt.cells, Pt.slots] at X1 l1 y1 z1 stp q1 q2 q3
  subst l1 y1 z1
  have C1 := CHr.keep q2 (fun x hx => (hws' x hx).2) C.1
  exact Goes.run stp (K v T1 T1.heap ⟨_, X1, N.app q1, rfl, K0.trans q2 (fun x hx => (hws' x hx).1), es, O, hws, hZ, ⟨k0, hS, Nat.le_trans hk q2.1⟩, C.trans C1⟩ q2 C1 q3)
theorem Wk.callSW (W : Wk p l e R s m args below meth c Z EL h0 ws vm0 T h cells slots) (hx : p.tables.exec = Jvm.exec) (ho : Z.vm.findClass own = some m.cls) {index : Nat} {y : MethodName} {bytes : ByteArray} {ml : Nat} {ret : Option FieldType} (w1 : (Cond.methodLink own index y).before a0 Z = true) (w2 : (Cond.static y).before a0 Z = true) (w3 : (Cond.initialized y.cls).before a0 Z = true) (w4 : (Cond.code y bytes ml ret).before a0 Z = true) (hy : y.cls ≠ "java/lang/invoke/MethodHandle" ∧ y.cls ≠ "java/lang/invoke/VarHandle")
    {Wd mc ms : Nat} {as' : Array Value} {ws' : List Addr} {Q : Option Value → Heap → Prop} (hK : BackS l R p e below (s.setVm vm0) args y 3 Wd (PreB R as' h mc ms) (PostBW Z EL vm0 h ws' Q mc ms)) (hsz : ls.size = c.maxLocals) (argsL rest : List Value) (hlen : ∀ sig, parseMethodDescriptor y.desc = some sig → argsL.length = sig.parameters.length) (hst : st = argsL.reverse ++ rest) (has : argsL.toArray = as') (hW : (rest.map fun v => v.category).sum ≤ Wd) (pc' : Nat) (hd : decode c.code pc = .ok (.invokestatic index, 3)) (hp : pc + 3 = pc') (hc : cells + mc ≤ R.cells) (hs : slots + ms ≤ R.slots) (hws' : ∀ x ∈ ws', (x ∈ ws ∨ h0.size ≤ x) ∧ Safe Z EL vm0 h x)
    (K : ∀ (v : Option Value) (vm1 : Vm) (T' : State) (h' : Heap), Wk p l e R s m args below meth c Z EL h0 ws vm1 T' h' (cells + mc) (slots + ms) → Keep h h' ws' → CHr Z EL vm0 h vm1 h' → Q v h' → Goes p e below Post (T'.setTop (mkF m pc' ls (v.toList ++ rest)))) : Goes p e below Post (T.setTop (mkF m pc ls st)) := by
  subst hp hst
  have ho' := W.wown ho
  obtain ⟨locs, X, N, eh, K0, es, O, hws, hZ, ⟨k0, hS, hk⟩, C⟩ := W
  obtain ⟨v, _, ⟨T1, L1', k1, n1⟩, -, X1, hS1, hg1, ⟨L1, ⟨q1, q2, q3⟩, l1, y1, z1, C1⟩, stp⟩ := callSS X hx ho' (mvT (s := s.setVm vm0) hZ w1) (mvT (s := s.setVm vm0) hZ w2) (mvT (s := s.setVm vm0) hZ w3) (mvT (s := s.setVm vm0) hZ w4) hy hK (g := mkF m pc ls (argsL.reverse ++ rest)) rfl hsz hlen rfl (by show 2 * 0 + _ ≤ _; omega) hd (fun _ _ => ⟨has, eh, hc, hs⟩)
  dsimp only [Pt.U, Pt.locs, Pt.cells, Pt.slots] at X1 l1 y1 z1 stp q1 q2 q3 hS1 hg1 C1
  subst l1 y1 z1
  exact Goes.run stp (K v T1.vm T1 T1.heap ⟨_, X1, N.app q1, rfl, K0.trans q2 (fun x hx => (hws' x hx).1), es, O, hws, State.Warmed39.trans (t := s.setVm vm0) hZ hS1.1, ⟨_, hS.trans hS1 (Nat.le_trans hk (by rw [← eh]; exact hg1)), Nat.le_refl _⟩, C.trans C1⟩ q2 C1 q3)
theorem Wk.specialW (W : Wk p l e R s m args below meth c Z EL h0 ws vm0 T h cells slots) (hx : p.tables.exec = Jvm.exec) (ho : Z.vm.findClass own = some m.cls) {index : Nat} {y : MethodName} (hy1 : y.name = "<init>") {bytes : ByteArray} {ml : Nat} (w1 : (Cond.methodLink own index y).before a0 Z = true) (w2 : (Cond.instanceMethod y).before a0 Z = true) (w4 : (Cond.code y bytes ml none).before a0 Z = true) (hy : y.cls ≠ "java/lang/invoke/MethodHandle" ∧ y.cls ≠ "java/lang/invoke/VarHandle")
    {Wd mc ms : Nat} {as' : Array Value} {ws' : List Addr} {Q : Option Value → Heap → Prop} (hK : BackS l R p e below (s.setVm vm0) args y 3 Wd (PreB R as' h mc ms) (PostBW Z EL vm0 h ws' Q mc ms)) (a : Addr) (hsz : ls.size = c.maxLocals) (argsL rest : List Value) (hlen : ∀ sig, parseMethodDescriptor y.desc = some sig → argsL.length = sig.parameters.length) (hst : st = argsL.reverse ++ .ref a :: rest) (has : (Value.ref a :: argsL).toArray = as') (hW : (rest.map fun v => v.category).sum ≤ Wd) (pc' : Nat) (hd : decode c.code pc = .ok (.invokespecial index, 3)) (hp : pc + 3 = pc') (hc : cells + mc ≤ R.cells) (hs : slots + ms ≤ R.slots) (hws' : ∀ x ∈ ws', (x ∈ ws ∨ h0.size ≤ x) ∧ Safe Z EL vm0 h x)
    (K : ∀ (v : Option Value) (vm1 : Vm) (T' : State) (h' : Heap), Wk p l e R s m args below meth c Z EL h0 ws vm1 T' h' (cells + mc) (slots + ms) → Keep h h' ws' → CHr Z EL vm0 h vm1 h' → Q v h' → Goes p e below Post (T'.setTop (mkF m pc' ls (v.toList ++ rest)))) : Goes p e below Post (T.setTop (mkF m pc ls st)) := by
  subst hp hst
  have ho' := W.wown ho
  obtain ⟨locs, X, N, eh, K0, es, O, hws, hZ, ⟨k0, hS, hk⟩, C⟩ := W
  obtain ⟨v, _, ⟨T1, L1', k1, n1⟩, -, X1, hS1, hg1, ⟨L1, ⟨q1, q2, q3⟩, l1, y1, z1, C1⟩, stp⟩ := X.specialBackS hx hy1 ho' (mvT (s := s.setVm vm0) hZ w1) (mvT (s := s.setVm vm0) hZ w2) (mvT (s := s.setVm vm0) hZ w4) hy hK (g := mkF m pc ls (argsL.reverse ++ .ref a :: rest)) rfl hsz (Steps.refl _) hlen rfl (by show 2 * 0 + _ ≤ _; omega) hd (fun _ _ => ⟨has, eh, hc, hs⟩)
  dsimp only [Pt.U, Pt.locs, Pt.cells, Pt.slots] at X1 l1 y1 z1 stp q1 q2 q3 hS1 hg1 C1
  subst l1 y1 z1
  exact Goes.run stp (K v T1.vm T1 T1.heap ⟨_, X1, N.app q1, rfl, K0.trans q2 (fun x hx => (hws' x hx).1), es, O, hws, State.Warmed39.trans (t := s.setVm vm0) hZ hS1.1, ⟨_, hS.trans hS1 (Nat.le_trans hk (by rw [← eh]; exact hg1)), Nat.le_refl _⟩, C.trans C1⟩ q2 C1 q3)
theorem Wk.virtualW (W : Wk p l e R s m args below meth c Z EL h0 ws vm0 T h cells slots) (hx : p.tables.exec = Jvm.exec) (ho : Z.vm.findClass own = some m.cls) {index : Nat} {C' : String} {y z : MethodName} (w1 : (Cond.methodLink own index y).before a0 Z = true) (w2 : (Cond.declares y).before a0 Z = true) (w3 : (Cond.selects C' y z).before a0 Z = true) (w4 : (Cond.instanceMethod z).before a0 Z = true) (nf : NotFace (s.setVm vm0) y) (hy : y.cls ≠ "java/lang/invoke/MethodHandle" ∧ y.cls ≠ "java/lang/invoke/VarHandle")
    {Wd mc ms : Nat} {as' : Array Value} {ws' : List Addr} {Q : Option Value → Heap → Prop} (hK : BackS l R p e below (s.setVm vm0) args z 3 Wd (PreB R as' h mc ms) (PostBW Z EL vm0 h ws' Q mc ms)) {a : Addr} (E : Exa Z h a C') (hsz : ls.size = c.maxLocals) (argsL rest : List Value) (hlen : ∀ sig, parseMethodDescriptor y.desc = some sig → argsL.length = sig.parameters.length) (hst : st = argsL.reverse ++ .ref a :: rest) (has : (Value.ref a :: argsL).toArray = as') (hW : (rest.map fun v => v.category).sum ≤ Wd) (pc' : Nat) (hd : decode c.code pc = .ok (.invokevirtual index, 3)) (hp : pc + 3 = pc') (hc : cells + mc ≤ R.cells) (hs : slots + ms ≤ R.slots) (hws' : ∀ x ∈ ws', (x ∈ ws ∨ h0.size ≤ x) ∧ Safe Z EL vm0 h x)
    (K : ∀ (v : Option Value) (vm1 : Vm) (T' : State) (h' : Heap), Wk p l e R s m args below meth c Z EL h0 ws vm1 T' h' (cells + mc) (slots + ms) → Keep h h' ws' → CHr Z EL vm0 h vm1 h' → Q v h' → Goes p e below Post (T'.setTop (mkF m pc' ls (v.toList ++ rest)))) : Goes p e below Post (T.setTop (mkF m pc ls st)) := by
  subst hp hst
  have ho' := W.wown ho
  obtain ⟨locs, X, N, eh, K0, es, O, hws, hZ, ⟨k0, hS, hk⟩, C⟩ := W
  obtain ⟨cq, kq, qa, qb, qc⟩ := isOf (s := s.setVm vm0) hZ eh E
  obtain ⟨v, _, ⟨T1, L1', k1, n1⟩, -, X1, hS1, hg1, ⟨L1, ⟨q1, q2, q3⟩, l1, y1, z1, C1⟩, stp⟩ := X.virtualBackS hx ho' (mvT (s := s.setVm vm0) hZ w1) (mvT (s := s.setVm vm0) hZ w2) nf (mvT (s := s.setVm vm0) hZ w3) (mvT (s := s.setVm vm0) hZ w4) hy hK qa qc (g := mkF m pc ls (argsL.reverse ++ .ref a :: rest)) rfl hsz (Steps.refl _) hlen rfl (by show 2 * 0 + _ ≤ _; omega) hd (fun _ _ => ⟨has, eh, hc, hs⟩)
  dsimp only [Pt.U, Pt.locs, Pt.cells, Pt.slots] at X1 l1 y1 z1 stp q1 q2 q3 hS1 hg1 C1
  subst l1 y1 z1
  exact Goes.run stp (K v T1.vm T1 T1.heap ⟨_, X1, N.app q1, rfl, K0.trans q2 (fun x hx => (hws' x hx).1), es, O, hws, State.Warmed39.trans (t := s.setVm vm0) hZ hS1.1, ⟨_, hS.trans hS1 (Nat.le_trans hk (by rw [← eh]; exact hg1)), Nat.le_refl _⟩, C.trans C1⟩ q2 C1 q3)
theorem Wk.privW (W : Wk p l e R s m args below meth c Z EL h0 ws vm0 T h cells slots) (hx : p.tables.exec = Jvm.exec) (ho : Z.vm.findClass own = some m.cls) {index : Nat} {y : MethodName} {bytes : ByteArray} {ml : Nat} {ret : Option FieldType} (w1 : (Cond.methodLink own index y).before a0 Z = true) (w2 : (Cond.instanceMethod y).before a0 Z = true) (w3 : (Cond.selects y.cls y y).before a0 Z = true) (w5 : (Cond.privateMethod y).before a0 Z = true) (w4 : (Cond.code y bytes ml ret).before a0 Z = true) (hy : y.cls ≠ "java/lang/invoke/MethodHandle" ∧ y.cls ≠ "java/lang/invoke/VarHandle")
    {Wd mc ms : Nat} {as' : Array Value} {ws' : List Addr} {Q : Option Value → Heap → Prop} (hK : BackS l R p e below (s.setVm vm0) args y 3 Wd (PreB R as' h mc ms) (PostBW Z EL vm0 h ws' Q mc ms)) {a : Addr} {C' : String} (E : Exa Z h a C') (hsz : ls.size = c.maxLocals) (argsL rest : List Value) (hlen : ∀ sig, parseMethodDescriptor y.desc = some sig → argsL.length = sig.parameters.length) (hst : st = argsL.reverse ++ .ref a :: rest) (has : (Value.ref a :: argsL).toArray = as') (hW : (rest.map fun v => v.category).sum ≤ Wd) (pc' : Nat) (hd : decode c.code pc = .ok (.invokevirtual index, 3)) (hp : pc + 3 = pc') (hc : cells + mc ≤ R.cells) (hs : slots + ms ≤ R.slots) (hws' : ∀ x ∈ ws', (x ∈ ws ∨ h0.size ≤ x) ∧ Safe Z EL vm0 h x)
    (K : ∀ (v : Option Value) (vm1 : Vm) (T' : State) (h' : Heap), Wk p l e R s m args below meth c Z EL h0 ws vm1 T' h' (cells + mc) (slots + ms) → Keep h h' ws' → CHr Z EL vm0 h vm1 h' → Q v h' → Goes p e below Post (T'.setTop (mkF m pc' ls (v.toList ++ rest)))) : Goes p e below Post (T.setTop (mkF m pc ls st)) := by
  subst hp hst
  have ho' := W.wown ho
  obtain ⟨locs, X, N, eh, K0, es, O, hws, hZ, ⟨k0, hS, hk⟩, C⟩ := W
  obtain ⟨cq, hcq, hcv⟩ := E.cell
  obtain ⟨v, _, ⟨T1, L1', k1, n1⟩, -, X1, hS1, hg1, ⟨L1, ⟨q1, q2, q3⟩, l1, y1, z1, C1⟩, stp⟩ := X.privateBackS hx ho' (mvT (s := s.setVm vm0) hZ w1) (mvT (s := s.setVm vm0) hZ w2) (mvT (s := s.setVm vm0) hZ w3) (Cond.privateMethod_at (mvP (s := s.setVm vm0) hZ w5 (args := #[]))) (mvT (s := s.setVm vm0) hZ w4) hy hK (g := mkF m pc ls (argsL.reverse ++ .ref a :: rest)) rfl hsz (Steps.refl _) (by rw [eh]; exact hcq) hcv hlen rfl (by show 2 * 0 + _ ≤ _; omega) hd (fun _ _ => ⟨has, eh, hc, hs⟩)
  dsimp only [Pt.U, Pt.locs, Pt.cells, Pt.slots] at X1 l1 y1 z1 stp q1 q2 q3 hS1 hg1 C1
  subst l1 y1 z1
  exact Goes.run stp (K v T1.vm T1 T1.heap ⟨_, X1, N.app q1, rfl, K0.trans q2 (fun x hx => (hws' x hx).1), es, O, hws, State.Warmed39.trans (t := s.setVm vm0) hZ hS1.1, ⟨_, hS.trans hS1 (Nat.le_trans hk (by rw [← eh]; exact hg1)), Nat.le_refl _⟩, C.trans C1⟩ q2 C1 q3)
theorem Wk.ifaceW (W : Wk p l e R s m args below meth c Z EL h0 ws vm0 T h cells slots) (hx : p.tables.exec = Jvm.exec) (ho : Z.vm.findClass own = some m.cls) {index count : Nat} {C' : String} {y z : MethodName} (w1 : (Cond.methodLink own index y).before a0 Z = true) (w2 : (Cond.declares y).before a0 Z = true) (w3 : (Cond.interfaceMethod y.cls y.cls y.name y.desc).before a0 Z = true) (w4 : (Cond.selects C' y z).before a0 Z = true) (w5 : (Cond.instanceMethod z).before a0 Z = true) (w6 : (Cond.publicMethod z).before a0 Z = true) (w7 : (Cond.unhidden C' y.name y.desc).before a0 Z = true) (w8 : (Cond.castable C' y.cls).before a0 Z = true) (hI : ((Cond.interfaceMethod y.cls y.cls y.name y.desc).onTables && (Cond.interfaceMethod y.cls y.cls y.name y.desc).keepsFace) = true) (hy : y.cls ≠ "java/lang/invoke/MethodHandle" ∧ y.cls ≠ "java/lang/invoke/VarHandle")
    {Wd mc ms : Nat} {as' : Array Value} {ws' : List Addr} {Q : Option Value → Heap → Prop} (hK : BackS l R p e below (s.setVm vm0) args z 5 Wd (PreB R as' h mc ms) (PostBW Z EL vm0 h ws' Q mc ms)) {a : Addr} (E : Exa Z h a C') (hsz : ls.size = c.maxLocals) (argsL rest : List Value) (hlen : ∀ sig, parseMethodDescriptor y.desc = some sig → argsL.length = sig.parameters.length) (hst : st = argsL.reverse ++ .ref a :: rest) (has : (Value.ref a :: argsL).toArray = as') (hW : (rest.map fun v => v.category).sum ≤ Wd) (pc' : Nat) (hd : decode c.code pc = .ok (.invokeinterface index count, 5)) (hp : pc + 5 = pc') (hc : cells + mc ≤ R.cells) (hs : slots + ms ≤ R.slots) (hws' : ∀ x ∈ ws', (x ∈ ws ∨ h0.size ≤ x) ∧ Safe Z EL vm0 h x)
    (K : ∀ (v : Option Value) (vm1 : Vm) (T' : State) (h' : Heap), Wk p l e R s m args below meth c Z EL h0 ws vm1 T' h' (cells + mc) (slots + ms) → Keep h h' ws' → CHr Z EL vm0 h vm1 h' → Q v h' → Goes p e below Post (T'.setTop (mkF m pc' ls (v.toList ++ rest)))) : Goes p e below Post (T.setTop (mkF m pc ls st)) := by
  subst hp hst
  have ho' := W.wown ho
  obtain ⟨locs, X, N, eh, K0, es, O, hws, hZ, ⟨k0, hS, hk⟩, C⟩ := W
  obtain ⟨cq, kq, qa, qb, qc⟩ := isOf (s := s.setVm vm0) hZ eh E
  obtain ⟨v, _, ⟨T1, L1', k1, n1⟩, -, X1, hS1, hg1, ⟨L1, ⟨q1, q2, q3⟩, l1, y1, z1, C1⟩, stp⟩ := X.interfaceBackS hx ho' (mvT (s := s.setVm vm0) hZ w1) (mvT (s := s.setVm vm0) hZ w2) (mvT (s := s.setVm vm0) hZ w3 hI) (mvT (s := s.setVm vm0) hZ w4) (mvT (s := s.setVm vm0) hZ w5) (mvT (s := s.setVm vm0) hZ w6) (mvT (s := s.setVm vm0) hZ w7) (mvT (s := s.setVm vm0) hZ w8) hy hK qa qb qc (g := mkF m pc ls (argsL.reverse ++ .ref a :: rest)) rfl hsz (Steps.refl _) hlen rfl (by show 2 * 0 + _ ≤ _; omega) hd (fun _ _ => ⟨has, eh, hc, hs⟩)
  dsimp only [Pt.U, Pt.locs, Pt.cells, Pt.slots] at X1 l1 y1 z1 stp q1 q2 q3 hS1 hg1 C1
  subst l1 y1 z1
  exact Goes.run stp (K v T1.vm T1 T1.heap ⟨_, X1, N.app q1, rfl, K0.trans q2 (fun x hx => (hws' x hx).1), es, O, hws, State.Warmed39.trans (t := s.setVm vm0) hZ hS1.1, ⟨_, hS.trans hS1 (Nat.le_trans hk (by rw [← eh]; exact hg1)), Nat.le_refl _⟩, C.trans C1⟩ q2 C1 q3)
theorem Wk.nf (W : Wk p l e R s m args below meth c Z EL h0 ws vm0 T h cells slots) {C' : String} {y : MethodName} (w3 : (Cond.selects C' y y).before a0 Z = true) : NotFace (s.setVm vm0) y := notFace_of_selects (args := #[]) (mvT (s := s.setVm vm0) W.warm w3)
end Calls
section Ends
variable {p : Program} {l : Launch} {e : Env} {R : Room} {s : State} {m : MethodId} {args : Array Value} {below : List Frame} {meth : Method} {c : Code} {Z : State} {EL : List (String × Nat)} {h0 : Heap} {ws : List Addr} {vm0 : Vm} {T : State} {h : Heap} {cells slots : Nat} {a0 : Array Value} {pc : Nat} {ls : Array Slot} {rest : List Value} {own : String} {mc ms : Nat} {Q : Option Value → Heap → Prop}
theorem CN.of_walk {wl : List Cond} {y : MethodName} {bytes : ByteArray} {ml : Nat} {ret : Option FieldType} {rm : Room} {as' : Array Value} (hpl : plainFor y = true) (O : Ext Z.heap h0) (hws : ∀ x ∈ ws, Z.heap.size ≤ x)
    (body : ∀ (p : Program) (e : Env) (s : State) (m : MethodId) (below : List Frame) (meth : Method) (c : Code) (T : State), Wk p l e rm s m as' below meth c Z [] h0 ws s.vm T h0 0 0 → p.tables.exec = Jvm.exec → c.code = bytes → c.maxLocals = ml → Z.vm.findClass y.cls = some m.cls → meth.name = y.name → meth.sig.returnType = ret → meth.locks = false →
      Goes p e below (PostN s Z h0 ws Q rm.cells rm.slots) (T.setTop (entryFrame m as' ml))) : CN wl l Z y bytes ml ret rm as' h0 ws Q := by
  refine MetFree.of_bodySF hpl hisR ?_
  intro p e s m args below meth c s₁ Bd hml hP hK
  obtain ⟨rfl, hZ, hh⟩ := hP
  have X0 : Stand p l e rm s m args below meth c s₁ [] 0 0 := Stand.of_body Bd
  have e0 : s₁.heap = h0 := by rw [← hh, Bd.state]; rfl
  have hfc := findClass_of_methodNamed Bd.named
  obtain ⟨s₂, o, h1, h2, h3, h4⟩ := body p e s m below meth c s₁ ⟨[], X0, Fr.nil _, e0, Keep.refl _ _, hh, O, hws, hZ, ⟨_, (State.WarmedH.refl s).since 0, Nat.zero_le _⟩, CHr.refl (fun p hp => by cases hp)⟩ Bd.exec Bd.bytes hml (by rw [← hZ.alike.findClass]; exact hfc) (name_of_methodNamed Bd.named Bd.method).1 Bd.returns Bd.notSynchronized
  exact ⟨s₂, o, h1, h2, h3, h4⟩
theorem CW.of_walk {wl : List Cond} {y : MethodName} {bytes : ByteArray} {ml : Nat} {ret : Option FieldType} {rm : Room} {as' : Array Value} (hpl : plainFor y = true) (O : Ext Z.heap h0) (hws : ∀ x ∈ ws, Z.heap.size ≤ x)
    (body : ∀ (p : Program) (e : Env) (s : State) (m : MethodId) (below : List Frame) (meth : Method) (c : Code) (T : State), Wk p l e rm s m as' below meth c Z EL h0 ws s.vm T h0 0 0 → (∀ x ∈ ws, Safe Z EL s.vm h0 x) → p.tables.exec = Jvm.exec → c.code = bytes → c.maxLocals = ml → Z.vm.findClass y.cls = some m.cls → meth.name = y.name → meth.sig.returnType = ret → meth.locks = false →
      Goes p e below (PostW s Z EL h0 ws Q rm.cells rm.slots) (T.setTop (entryFrame m as' ml))) : CW wl l Z EL y bytes ml ret rm as' h0 ws Q := by
  refine MetFree.of_bodySF hpl hisR ?_
  intro p e s m args below meth c s₁ Bd hml hP hK
  obtain ⟨rfl, hZ, hh, hC, hsf⟩ := hP
  have X0 : Stand p l e rm s m args below meth c s₁ [] 0 0 := Stand.of_body Bd
  have e0 : s₁.heap = h0 := by rw [← hh, Bd.state]; rfl
  have hfc := findClass_of_methodNamed Bd.named
  obtain ⟨s₂, o, h1, h2, h3, h4⟩ := body p e s m below meth c s₁ ⟨[], X0, Fr.nil _, e0, Keep.refl _ _, hh, O, hws, hZ, ⟨_, (State.WarmedH.refl s).since 0, Nat.zero_le _⟩, CHr.refl hC⟩ hsf Bd.exec Bd.bytes hml (by rw [← hZ.alike.findClass]; exact hfc) (name_of_methodNamed Bd.named Bd.method).1 Bd.returns Bd.notSynchronized
  exact ⟨s₂, o, h1, h2, h3, h4⟩
theorem Wk.retI (W : Wk p l e R s m args below meth c Z EL h0 ws s.vm T h cells slots) (hx : p.tables.exec = Jvm.exec) {z : Int32} (hret : meth.sig.returnType = some .int) (hlk : meth.locks = false) (hd : decode c.code pc = .ok (.ireturn, 1)) (hc : cells ≤ mc) (hs : slots ≤ ms) (q : Q (some (.int z)) h) : Goes p e below (PostN s Z h0 ws Q mc ms) (T.setTop (mkF m pc ls ((.int z) :: rest))) := by
  obtain ⟨locs, X, N, eh, K0, -⟩ := W
  have X : Stand p l e R s m args below meth c T locs cells slots := X
  obtain ⟨fs, hr, hrun, hended, hW, hsame⟩ := X.leave (v := some (.int z)) (fun q => by rw [hret] at q; cases q) hlk
  exact ⟨_, _, retOut X hx hret rfl (Or.inl ⟨rfl, Or.inl rfl, _, rfl⟩) hd hr, hrun, hended, _, _, rfl, ⟨N, by show Keep h0 T.heap ws; rw [eh]; exact K0, by show Q _ T.heap; rw [eh]; exact q⟩, ⟨_, rfl⟩, hW, hsame.mono hc hs⟩
theorem Wk.retIW (W : Wk p l e R s m args below meth c Z EL h0 ws vm0 T h cells slots) (hx : p.tables.exec = Jvm.exec) (hEL : EW Z a0 EL) {z : Int32} (hret : meth.sig.returnType = some .int) (hlk : meth.locks = false) (hd : decode c.code pc = .ok (.ireturn, 1)) (hc : cells ≤ mc) (hs : slots ≤ ms) (q : Q (some (.int z)) h) : Goes p e below (PostW s Z EL h0 ws Q mc ms) (T.setTop (mkF m pc ls ((.int z) :: rest))) := by
  have W0 := W.mono hc hs
  obtain ⟨locs, X, N, eh, K0, es, -, -, hZ, ⟨k0, hS, hk⟩, C⟩ := W0
  obtain ⟨fs, hr, hrun, hended, hRE⟩ := X.leaveW hS (by rw [eh]; exact hk) (v := some (.int z)) (fun q => by rw [hret] at q; cases q) hlk
  exact ⟨_, _, retOut X hx hret rfl (Or.inl ⟨rfl, Or.inl rfl, _, rfl⟩) hd hr, hrun, hended, _, _, rfl, ⟨N, by show Keep h0 T.heap ws; rw [eh]; exact K0, by show Q _ T.heap; rw [eh]; exact q⟩, by show CHr Z EL s.vm h0 T.vm T.heap; rw [eh]; exact C.trans (CHv.at X hZ hEL C.1), hRE⟩
theorem Wk.retJ (W : Wk p l e R s m args below meth c Z EL h0 ws s.vm T h cells slots) (hx : p.tables.exec = Jvm.exec) {z : Int64} (hret : meth.sig.returnType = some .long) (hlk : meth.locks = false) (hd : decode c.code pc = .ok (.lreturn, 1)) (hc : cells ≤ mc) (hs : slots ≤ ms) (q : Q (some (.long z)) h) : Goes p e below (PostN s Z h0 ws Q mc ms) (T.setTop (mkF m pc ls ((.long z) :: rest))) := by
  obtain ⟨locs, X, N, eh, K0, -⟩ := W
  have X : Stand p l e R s m args below meth c T locs cells slots := X
  obtain ⟨fs, hr, hrun, hended, hW, hsame⟩ := X.leave (v := some (.long z)) (fun q => by rw [hret] at q; cases q) hlk
  exact ⟨_, _, retOut X hx hret rfl (Or.inr (Or.inl ⟨rfl, rfl, _, rfl⟩)) hd hr, hrun, hended, _, _, rfl, ⟨N, by show Keep h0 T.heap ws; rw [eh]; exact K0, by show Q _ T.heap; rw [eh]; exact q⟩, ⟨_, rfl⟩, hW, hsame.mono hc hs⟩
theorem Wk.retJW (W : Wk p l e R s m args below meth c Z EL h0 ws vm0 T h cells slots) (hx : p.tables.exec = Jvm.exec) (hEL : EW Z a0 EL) {z : Int64} (hret : meth.sig.returnType = some .long) (hlk : meth.locks = false) (hd : decode c.code pc = .ok (.lreturn, 1)) (hc : cells ≤ mc) (hs : slots ≤ ms) (q : Q (some (.long z)) h) : Goes p e below (PostW s Z EL h0 ws Q mc ms) (T.setTop (mkF m pc ls ((.long z) :: rest))) := by
  have W0 := W.mono hc hs
  obtain ⟨locs, X, N, eh, K0, es, -, -, hZ, ⟨k0, hS, hk⟩, C⟩ := W0
  obtain ⟨fs, hr, hrun, hended, hRE⟩ := X.leaveW hS (by rw [eh]; exact hk) (v := some (.long z)) (fun q => by rw [hret] at q; cases q) hlk
  exact ⟨_, _, retOut X hx hret rfl (Or.inr (Or.inl ⟨rfl, rfl, _, rfl⟩)) hd hr, hrun, hended, _, _, rfl, ⟨N, by show Keep h0 T.heap ws; rw [eh]; exact K0, by show Q _ T.heap; rw [eh]; exact q⟩, by show CHr Z EL s.vm h0 T.vm T.heap; rw [eh]; exact C.trans (CHv.at X hZ hEL C.1), hRE⟩
theorem Wk.retA (W : Wk p l e R s m args below meth c Z EL h0 ws s.vm T h cells slots) (hx : p.tables.exec = Jvm.exec) {t : FieldType} {z : Value} (ht : t.isReference = true) (hz : z.isRef = true) (hret : meth.sig.returnType = some t) (hlk : meth.locks = false) (hd : decode c.code pc = .ok (.areturn, 1)) (hc : cells ≤ mc) (hs : slots ≤ ms) (q : Q (some z) h) : Goes p e below (PostN s Z h0 ws Q mc ms) (T.setTop (mkF m pc ls (z :: rest))) := by
  obtain ⟨locs, X, N, eh, K0, -⟩ := W
  have X : Stand p l e R s m args below meth c T locs cells slots := X
  obtain ⟨fs, hr, hrun, hended, hW, hsame⟩ := X.leave (v := some z) (fun q => by rw [hret] at q; cases q) hlk
  exact ⟨_, _, retOut X hx hret (by cases t <;> simp [FieldType.isReference] at ht <;> cases z <;> simp [Value.isRef] at hz <;> rfl) (Or.inr (Or.inr (Or.inr (Or.inr ⟨rfl, ht, hz⟩)))) hd hr, hrun, hended, _, _, rfl, ⟨N, by show Keep h0 T.heap ws; rw [eh]; exact K0, by show Q _ T.heap; rw [eh]; exact q⟩, ⟨_, rfl⟩, hW, hsame.mono hc hs⟩
theorem Wk.retAW (W : Wk p l e R s m args below meth c Z EL h0 ws vm0 T h cells slots) (hx : p.tables.exec = Jvm.exec) (hEL : EW Z a0 EL) {t : FieldType} {z : Value} (ht : t.isReference = true) (hz : z.isRef = true) (hret : meth.sig.returnType = some t) (hlk : meth.locks = false) (hd : decode c.code pc = .ok (.areturn, 1)) (hc : cells ≤ mc) (hs : slots ≤ ms) (q : Q (some z) h) : Goes p e below (PostW s Z EL h0 ws Q mc ms) (T.setTop (mkF m pc ls (z :: rest))) := by
  have W0 := W.mono hc hs
  obtain ⟨locs, X, N, eh, K0, es, -, -, hZ, ⟨k0, hS, hk⟩, C⟩ := W0
  obtain ⟨fs, hr, hrun, hended, hRE⟩ := X.leaveW hS (by rw [eh]; exact hk) (v := some z) (fun q => by rw [hret] at q; cases q) hlk
  exact ⟨_, _, retOut X hx hret (by cases t <;> simp [FieldType.isReference] at ht <;> cases z <;> simp [Value.isRef] at hz <;> rfl) (Or.inr (Or.inr (Or.inr (Or.inr ⟨rfl, ht, hz⟩)))) hd hr, hrun, hended, _, _, rfl, ⟨N, by show Keep h0 T.heap ws; rw [eh]; exact K0, by show Q _ T.heap; rw [eh]; exact q⟩, by show CHr Z EL s.vm h0 T.vm T.heap; rw [eh]; exact C.trans (CHv.at X hZ hEL C.1), hRE⟩
theorem Wk.retN (W : Wk p l e R s m args below meth c Z EL h0 ws s.vm T h cells slots) (hx : p.tables.exec = Jvm.exec) {z : Int32} (z' : Int32) {t : FieldType} (hn : nar t z = z') (ht : t = .boolean ∨ t = .byte ∨ t = .char ∨ t = .short) (hret : meth.sig.returnType = some t) (hlk : meth.locks = false) (hd : decode c.code pc = .ok (.ireturn, 1)) (hc : cells ≤ mc) (hs : slots ≤ ms) (q : Q (some (.int z')) h) : Goes p e below (PostN s Z h0 ws Q mc ms) (T.setTop (mkF m pc ls (.int z :: rest))) := by
  subst hn
  obtain ⟨locs, X, N, eh, K0, -⟩ := W
  have X : Stand p l e R s m args below meth c T locs cells slots := X
  obtain ⟨fs, hr, hrun, hended, hW, hsame⟩ := X.leave (v := some (.int (nar t z))) (fun q => by rw [hret] at q; cases q) hlk
  exact ⟨_, _, RoadKit.retN X hx hret ht hd hr, hrun, hended, _, _, rfl, ⟨N, by show Keep h0 T.heap ws; rw [eh]; exact K0, by show Q _ T.heap; rw [eh]; exact q⟩, ⟨_, rfl⟩, hW, hsame.mono hc hs⟩
theorem Wk.retNW (W : Wk p l e R s m args below meth c Z EL h0 ws vm0 T h cells slots) (hx : p.tables.exec = Jvm.exec) (hEL : EW Z a0 EL) {z : Int32} (z' : Int32) {t : FieldType} (hn : nar t z = z') (ht : t = .boolean ∨ t = .byte ∨ t = .char ∨ t = .short) (hret : meth.sig.returnType = some t) (hlk : meth.locks = false) (hd : decode c.code pc = .ok (.ireturn, 1)) (hc : cells ≤ mc) (hs : slots ≤ ms) (q : Q (some (.int z')) h) : Goes p e below (PostW s Z EL h0 ws Q mc ms) (T.setTop (mkF m pc ls (.int z :: rest))) := by
  subst hn
  have W0 := W.mono hc hs
  obtain ⟨locs, X, N, eh, K0, es, -, -, hZ, ⟨k0, hS, hk⟩, C⟩ := W0
  obtain ⟨fs, hr, hrun, hended, hRE⟩ := X.leaveW hS (by rw [eh]; exact hk) (v := some (.int (nar t z))) (fun q => by rw [hret] at q; cases q) hlk
  exact ⟨_, _, RoadKit.retN X hx hret ht hd hr, hrun, hended, _, _, rfl, ⟨N, by show Keep h0 T.heap ws; rw [eh]; exact K0, by show Q _ T.heap; rw [eh]; exact q⟩, by show CHr Z EL s.vm h0 T.vm T.heap; rw [eh]; exact C.trans (CHv.at X hZ hEL C.1), hRE⟩
theorem Wk.retV (W : Wk p l e R s m args below meth c Z EL h0 ws s.vm T h cells slots) (hx : p.tables.exec = Jvm.exec) (hret : meth.sig.returnType = none) (hlk : meth.locks = false) (hd : decode c.code pc = .ok (.return_, 1)) (hc : cells ≤ mc) (hs : slots ≤ ms) (q : Q none h) : Goes p e below (PostN s Z h0 ws Q mc ms) (T.setTop (mkF m pc ls [])) := by
  obtain ⟨locs, X, N, eh, K0, -⟩ := W
  have X : Stand p l e R s m args below meth c T locs cells slots := X
  obtain ⟨fs, hr, hrun, hended, hW, hsame⟩ := X.leave (v := none) (fun _ => rfl) hlk
  exact ⟨_, _, X.returnOut hx hret hd hr, hrun, hended, _, _, rfl, ⟨N, by show Keep h0 T.heap ws; rw [eh]; exact K0, by show Q _ T.heap; rw [eh]; exact q⟩, ⟨_, rfl⟩, hW, hsame.mono hc hs⟩
theorem Wk.retVW (W : Wk p l e R s m args below meth c Z EL h0 ws vm0 T h cells slots) (hx : p.tables.exec = Jvm.exec) (hEL : EW Z a0 EL) (hret : meth.sig.returnType = none) (hlk : meth.locks = false) (hd : decode c.code pc = .ok (.return_, 1)) (hc : cells ≤ mc) (hs : slots ≤ ms) (q : Q none h) : Goes p e below (PostW s Z EL h0 ws Q mc ms) (T.setTop (mkF m pc ls [])) := by
  have W0 := W.mono hc hs
  obtain ⟨locs, X, N, eh, K0, es, -, -, hZ, ⟨k0, hS, hk⟩, C⟩ := W0
  obtain ⟨fs, hr, hrun, hended, hRE⟩ := X.leaveW hS (by rw [eh]; exact hk) (v := none) (fun _ => rfl) hlk
  exact ⟨_, _, X.returnOut hx hret hd hr, hrun, hended, _, _, rfl, ⟨N, by show Keep h0 T.heap ws; rw [eh]; exact K0, by show Q _ T.heap; rw [eh]; exact q⟩, by show CHr Z EL s.vm h0 T.vm T.heap; rw [eh]; exact C.trans (CHv.at X hZ hEL C.1), hRE⟩
end Ends
end Jvm.OwnKit
namespace Jvm.OwnKit
open Sem ClassFile Op Lib Jvm.Stand Jvm.Free Jvm.LawKit Jvm.RoadKit
theorem neA {x y : Addr} (h : @LT.lt Nat _ x y ∨ @LT.lt Nat _ y x) : x ≠ y := h.elim (fun q => Nat.ne_of_lt q) (fun q => Nat.ne_of_gt q)
theorem ltN {a : Addr} {n : Nat} (h : a < n) : @LT.lt Nat _ a n := h
theorem ltA {a : Addr} {n : Nat} (h : @LT.lt Nat _ a n) : a < n := h
theorem all1 {a : Addr} {n : Nat} (h : @LT.lt Nat _ a n) : ∀ x ∈ [a], x < n := fun x hx => by cases List.mem_singleton.mp hx; exact h
theorem neN {x y : Addr} (h : x ≠ y) : @LT.lt Nat _ x y ∨ @LT.lt Nat _ y x := Nat.lt_or_gt_of_ne h
theorem cat_int (x : Int32) : (Value.int x).category = 1 := rfl
theorem cat_long (x : Int64) : (Value.long x).category = 2 := rfl
theorem cat_refv (x : Addr) : (Value.ref x).category = 1 := rfl
theorem cat_null : Value.null.category = 1 := rfl
theorem ref_nar {t : FieldType} {v : Value} (ht : t.isReference = true) (hv : v.isRef = true) : narrow t v = v ∧ fits t v = true := by
  cases t <;> simp [FieldType.isReference] at ht <;> cases v <;> simp [Value.isRef] at hv <;> exact ⟨rfl, rfl⟩
theorem bool_nar {x : Int32} (h : x = 0 ∨ x = 1) : narrow .boolean (.int x) = .int x ∧ fits .boolean (.int x) = true := by rcases h with rfl | rfl <;> exact ⟨rfl, rfl⟩
theorem cat_ref {v : Value} (h : v.isRef = true) : v.category = 1 := by cases v <;> simp [Value.isRef] at h <;> rfl
theorem one_ref {v : Value} (h : v.isRef = true) : Slot.val v = .unset ∨ ∃ w, Slot.val v = .val w ∧ w.category = 1 := Or.inr ⟨v, rfl, cat_ref h⟩
/-- an int of Java's type char, below 256 -/
def C8 (x : Int32) : Prop := ¬ x < 0 ∧ ¬ (255 : Int32) < x
/-- an int of Java's type char -/
def C16 (x : Int32) : Prop := ¬ x < 0 ∧ ¬ (65535 : Int32) < x
theorem i32lt {x y : Int32} : x < y ↔ x.toInt < y.toInt := Int32.lt_iff_toInt_lt
theorem i32nat {y : Int32} (h : y.toBitVec.toNat < 2 ^ 31) : y.toInt = (y.toBitVec.toNat : Int) := by
  have : y.toInt = y.toBitVec.toInt := rfl
  rw [this, BitVec.toInt_eq_toNat_cond, if_pos (by omega)]
theorem C16.nat {x : Int32} (h : C16 x) : x.toBitVec.toNat < 65536 := by
  obtain ⟨h1, h2⟩ := h
  rw [i32lt] at h1 h2
  have e0 : (0 : Int32).toInt = 0 := rfl
  have e1 : (65535 : Int32).toInt = 65535 := rfl
  have : x.toInt = x.toBitVec.toInt := rfl
  have hb := x.toBitVec.isLt
  rw [this, BitVec.toInt_eq_toNat_cond] at h1 h2
  by_cases hc : 2 * x.toBitVec.toNat < 2 ^ 32
  · rw [if_pos hc] at h2; omega
  · rw [if_neg hc] at h1; omega
theorem C16.of {x : Int32} (h : x.toBitVec.toNat < 65536) : C16 x := by
  have e := i32nat (y := x) (by omega)
  constructor
  · rw [i32lt, e]; have e0 : (0 : Int32).toInt = 0 := rfl
    omega
  · rw [i32lt, e]; have e1 : (65535 : Int32).toInt = 65535 := rfl
    omega
theorem C8.of {x : Int32} (h : x.toBitVec.toNat < 256) : C8 x := by
  have e := i32nat (y := x) (by omega)
  constructor
  · rw [i32lt, e]; have e0 : (0 : Int32).toInt = 0 := rfl
    omega
  · rw [i32lt, e]; have e1 : (255 : Int32).toInt = 255 := rfl
    omega
theorem C8.up {x : Int32} (h : C8 x) : C16 x := ⟨h.1, fun q => h.2 (by rw [i32lt] at q ⊢; have e1 : (65535 : Int32).toInt = 65535 := rfl; have e2 : (255 : Int32).toInt = 255 := rfl; omega)⟩
theorem i2c_nat (x : Int32) : (i2c x).toBitVec.toNat = x.toBitVec.toNat % 65536 := by
  have h : (i2c x).toBitVec = (x.toBitVec.setWidth 16).setWidth 32 := rfl
  rw [h, BitVec.toNat_setWidth, BitVec.toNat_setWidth]
  omega
theorem i2c_c16 (x : Int32) : C16 (i2c x) := C16.of (by rw [i2c_nat]; omega)
theorem i2c_id {x : Int32} (h : C16 x) : i2c x = x := by
  apply Int32.toBitVec_inj.mp
  apply BitVec.eq_of_toNat_eq
  rw [i2c_nat]
  have := h.nat
  omega
theorem nar_c16 {x : Int32} (h : C16 x) : nar .char x = x := i2c_id h
theorem and_nat (x : Int32) (k : Nat) (hk : k < 2 ^ 31) : (x &&& Int32.ofNat k).toBitVec.toNat ≤ k := by
  have e : (x &&& Int32.ofNat k).toBitVec.toNat = x.toBitVec.toNat &&& (Int32.ofNat k).toBitVec.toNat := by simp [Int32.toBitVec_and, BitVec.toNat_and]
  have e2 : (Int32.ofNat k).toBitVec.toNat = k := by
    show (BitVec.ofNat 32 k).toNat = k
    rw [BitVec.toNat_ofNat]; omega
  rw [e, e2]; exact Nat.and_le_right
theorem and255 (x : Int32) : C8 (x &&& 255) := C8.of (Nat.lt_of_le_of_lt (and_nat x 255 (by decide)) (by decide))
theorem i2c_255 (x : Int32) : i2c (x &&& 255) = x &&& 255 := i2c_id (and255 x).up
theorem i2c_c8 (x : Int32) : C8 (i2c (x &&& 255)) := by rw [i2c_255]; exact and255 x
theorem ala {α : Type} {P : α → Prop} {y : α} {L : List α} (q : P y) (r : ∀ x ∈ L, P x) : ∀ x ∈ y :: L, P x := fun x z => (List.mem_cons.mp z).elim (fun u => u ▸ q) (r x)
theorem ala0 {α : Type} {P : α → Prop} : ∀ x ∈ ([] : List α), P x := fun _ q => nomatch q
/-- x holds no byte[] -/
def NB (Z : State) (h : Heap) (x : Addr) : Prop := ∀ c : Cell, ¬ Arr Z h x c .byte
theorem NB.exa {Z : State} {h : Heap} {x : Addr} {C : String} {n : Nat} {a0 : Array Value} (E : Exa Z h x C) (w : (Cond.instantiable C n).before a0 Z = true) : NB Z h x := fun c A => RoadKit.ne_arr E w A rfl
theorem NB.arr {Z : State} {h : Heap} {x : Addr} {cl : Cell} {ty : FieldType} (A : Arr Z h x cl ty) (ht : ty ≠ .byte) : NB Z h x := fun c B => by
  cases A.1.symm.trans B.1
  obtain ⟨-, k, h1, comp, h2⟩ := A.2.1
  obtain ⟨-, k', g1, comp', g2⟩ := B.2.1
  cases h1.symm.trans g1
  rw [h2] at g2
  injection g2 with _ e
  exact ht e
theorem NB.arv {Z : State} {h : Heap} {x : Addr} {k : ClassId} {ty : FieldType} {n : Int32} {vs : List Value} {d : Value} (V : Arv Z h x k ty n vs d) (ht : ty ≠ .byte) : NB Z h x := by
  obtain ⟨c, A, -⟩ := V; exact NB.arr A ht
end Jvm.OwnKit
namespace Jvm.OwnKit
open Sem ClassFile Op Lib Jvm.Stand Jvm.Free Jvm.LawKit Jvm.RoadKit
theorem safe0 {Z : State} {vm : Vm} {h : Heap} {x : Addr} : Safe Z [] vm h x := fun B => by obtain ⟨p, hp, -⟩ := B; cases hp
theorem inr1 {a : Addr} {n : Nat} (h : @LE.le Nat _ n a) {ws : List Addr} : ∀ x ∈ [a], x ∈ ws ∨ @LE.le Nat _ n x := fun x hx => by cases List.mem_singleton.mp hx; exact Or.inr h
theorem hws1 {Z : State} {EL : List (String × Nat)} {vm : Vm} {h : Heap} {a : Addr} {n : Nat} {ws : List Addr} (q : a ∈ ws ∨ @LE.le Nat _ n a) (S : Safe Z EL vm h a) : ∀ x ∈ [a], (x ∈ ws ∨ @LE.le Nat _ n x) ∧ Safe Z EL vm h x := fun x hx => by cases List.mem_singleton.mp hx; exact ⟨q, S⟩
theorem i2b_i2b (x : Int32) : nar .byte (i2b x) = i2b x := by
  show ((x.toInt8.toInt32).toInt8).toInt32 = x.toInt8.toInt32
  rw [Int8.toInt8_toInt32]
end Jvm.OwnKit
namespace Jvm.OwnKit
open Sem ClassFile Op Lib Jvm.Stand Jvm.Free Jvm.LawKit Jvm.RoadKit
/-- a class right under the root is no subclass of a class that can be made an object of -/
theorem not_sub {Z : State} {a0 : Array Value} {C O K : String} {n : Nat} (w : (Cond.superclass C O).before a0 Z = true) (wo : (Cond.noSuperclass O).before a0 Z = true) (wi : (Cond.instantiable K n).before a0 Z = true) (h1 : C ≠ K) (h2 : O ≠ K) : ∃ c t, Z.vm.findClass C = some c ∧ Z.vm.findClass K = some t ∧ Z.vm.assignable c t = false := by
  obtain ⟨t, kt, g1, g2, g3, g4, -⟩ := Cond.instantiable_spec wi
  obtain ⟨o, ko, o1, o2, o3, -, -⟩ := Cond.noSuperclass_spec wo
  have neO := ids_ne o1 g1 h2
  have N0 : NS Z O K := by
    refine ⟨o, t, o1, g1, fun fuel => ?_⟩
    cases fuel with
    | zero => rfl
    | succ f => simp [Vm.isSubclassAux, neO, o2, o3]
  obtain ⟨c, t', c1, c2, c3⟩ := NS.step w N0 h1
  cases g1.symm.trans c2
  obtain ⟨p, k, kp, q1, q2, q3, q4, q5, -, q7⟩ := Cond.superclass_spec c1 w
  have ne := ids_ne c1 g1 h1
  have hi : kt.isInterface = false := by
    cases hq : kt.isInterface with
    | false => rfl
    | true => rw [hq] at g4; cases g4
  refine ⟨c, t, c1, g1, ?_⟩
  show Z.vm.assignableAux (255 + 1) c t = false
  simp [Vm.assignableAux, ne, q2, g2, q5, g3, hi, Vm.isSubclass, c3]
end Jvm.OwnKit
namespace Jvm.OwnKit
open Sem ClassFile Op Lib Jvm.Stand Jvm.Free Jvm.LawKit Jvm.RoadKit
section Lits
variable {p : Program} {l : Launch} {e : Env} {R : Room} {s : State} {m : MethodId} {args : Array Value} {below : List Frame} {meth : Method} {c : Code} {Z : State} {EL : List (String × Nat)} {h0 : Heap} {ws : List Addr} {vm0 : Vm} {T : State} {h : Heap} {cells slots : Nat} {a0 : Array Value} {Post : Outcome → State → Prop} {pc : Nat} {ls : Array Slot} {st rest : List Value} {own : String}
/-- ldc of a String constant, its text read -/
theorem Wk.ldcE (W : Wk p l e R s m args below meth c Z EL h0 ws vm0 T h cells slots) (hx : p.tables.exec = Jvm.exec) (ho : Z.vm.findClass own = some m.cls) {index : Nat} {text : String} (w : (Cond.stringLink own index text).before a0 Z = true) (wS : ∀ a ∈ Bundle.stringAtoms, a.before a0 Z = true) (hEL : EW Z a0 EL) (hmem : (own, index) ∈ EL)
    {vs : List Value} {z : Int32} (ht : (∀ c ∈ text.toList, c.toNat < 256) ∧ text.toList.map (fun c => Value.int (Jvm.Lit.byteI c.toNat.toUInt16)) = vs) (hz : ¬ z < 0) (hl : z.toNatClampNeg = vs.length)
    (pc' : Nat) (hd : decode c.code pc = .ok (.ldc index, 2)) (hp : pc + 2 = pc') (n : Nat) (hn : 4 * text.toList.length ≤ n) (hbig : n ≤ 536870912) (hc : cells + 2 ≤ R.cells) (hl' : slots + (n + 4) ≤ R.slots)
    (K : ∀ (vm1 : Vm) (T' : State) (h' : Heap) (a b : Addr) (k : ClassId), Wk p l e R s m args below meth c Z EL h0 ws vm1 T' h' (cells + 2) (slots + (n + 4)) → Ext h h' → CHr Z EL vm0 h vm1 h' → Exa Z h' a "java/lang/String" → Fld Z h' a "java/lang/String" "coder" "B" (.int 0) → Fld Z h' a "java/lang/String" "value" "[B" (.ref b) → Arv Z h' b k .byte z vs (.int 0) → (∀ x, Safe Z EL vm1 h' x → x ≠ a ∧ x ≠ b) → Goes p e below Post (T'.setTop (mkF m pc' ls (.ref a :: st)))) : Goes p e below Post (T.setTop (mkF m pc ls st)) := by
  subst hp
  have ho' := W.wown ho
  obtain ⟨locs, X, N, eh, K0, es, O, hws, hZ, ⟨k0, hS, hk⟩, C⟩ := W
  obtain ⟨a, T', h', k1, b, k, X', e', E, hS', hk', hZ', -, F1, F2, F3, F4, -, -, C', -, hsep, stp⟩ := ldcCH X hx hZ ho' w wS eh hS hk hEL hmem C.1 ht hz hl (g := mkF m pc ls st) rfl hd hn hbig hc hl'
  exact Goes.go stp (K T'.vm T' h' a b k ⟨locs, X', N, e', K0.ext E, es, O, hws, hZ', ⟨k1, hS', hk'⟩, C.trans C'⟩ E C' F1 F2 F3 F4 hsep)
end Lits
end Jvm.OwnKit
/- laws to paste: Road.backV, Road.eqW, Road.codOf (cut by pick.py; bodies as the Statement names them) -/
namespace Jvm.Pilot.@@N@@
namespace StrChars
open Jvm Sem ClassFile Op Lib Jvm.Stand Jvm.Free.XT Jvm.Free.ALB Jvm.Free.JM Jvm.Free
open Jvm.Lib.Cold (StaticIs)
/-- a char array whose places are chars -/
def Ch (a : Addr) (A : Cell) (U : State) : Prop := Arr .char a A U ∧ Typed .char A
theorem Ch.mv {a : Addr} {A : Cell} {U U' : State} (h : Ch a A U) (hal : U.vm.Alike U'.vm) (hh : U'.heap = U.heap) : Ch a A U' := ⟨h.1.mv hal hh, h.2⟩
theorem Ch.keep {a : Addr} {A : Cell} {U U' : State} (h : Ch a A U) (hal : U.vm.Alike U'.vm) (hk : U'.heap[a]? = some A) : Ch a A U' := ⟨h.1.keep hal hk, h.2⟩
/-- what place i of a char[]'s cell holds -/
def cv (A : Cell) (i : Nat) : Int32 := match A.slots[i]? with | some (.int x) => x | _ => 0
theorem Ch.get {a : Addr} {A : Cell} {U : State} (h : Ch a A U) {i : Nat} (hi : i < A.slots.size) : A.slots[i]? = some (.int (cv A i)) := by
  have e := Array.getElem?_eq_getElem hi
  have f := h.2 i _ e
  unfold cv; rw [e]
  generalize A.slots[i] = v at f
  cases v <;> simp [fits] at f ⊢
/-- the byte that i2b leaves of a char -/
def lo8 (x : Int32) : Int32 := x.toInt8.toInt32
theorem fits_lo8 (y : Int32) : fits .byte (.int (lo8 y)) = true := by
  have h1 := y.toInt8.le_toInt
  have h2 := y.toInt8.toInt_lt
  simp only [lo8, fits, Bool.and_eq_true, decide_eq_true_eq, Int32.le_iff_toInt_le, Int8.toInt_toInt32, show (-128 : Int32).toInt = -128 from by decide, show (127 : Int32).toInt = 127 from by decide]
  omega
/-- A' is A but that each place j of lo .. hi - 1 holds f j -/
def Laid (A A' : Cell) (lo hi : Nat) (f : Nat → Value) : Prop := A'.cls = A.cls ∧ A'.vm = A.vm ∧ A'.slots.size = A.slots.size ∧ ∀ i, A'.slots[i]? = if lo ≤ i ∧ i < hi then some (f i) else A.slots[i]?
theorem Laid.zero (A : Cell) (lo : Nat) (f : Nat → Value) : Laid A A lo (lo + 0) f := ⟨rfl, rfl, rfl, fun i => by rw [if_neg (by omega)]⟩
theorem Laid.step {A Ak : Cell} {lo k : Nat} {f : Nat → Value} {v : Value} (h : Laid A Ak lo k f) (hlo : lo ≤ k) (hk : k < Ak.slots.size) (hv : v = f k) : Laid A (Ak.setSlot k v) lo (k + 1) f := by
  refine ⟨h.1, h.2.1, by simpa [Cell.setSlot] using h.2.2.1, fun i => ?_⟩
  by_cases e : k = i
  · subst e; rw [Cell.slots_setSlot_self v hk, if_pos (by omega), hv]
  · rw [Cell.slots_setSlot_ne v e, h.2.2.2 i]
    by_cases q : lo ≤ i ∧ i < k
    · rw [if_pos q, if_pos (by omega)]
    · rw [if_neg q, if_neg (by omega)]
def U16 : String := "java/lang/StringUTF16"
namespace Cmp5
def yN : MethodName := ⟨"java/lang/StringUTF16", "compress", "([CI[BII)I"⟩
abbrev yB : ByteArray := jdk_52_method_21_code
theorem d0 : decode yB 0 = .ok (.iconst 0, 1) := by decide +kernel
theorem d1 : decode yB 1 = .ok (.istore 5, 2) := by decide +kernel
theorem d3 : decode yB 3 = .ok (.iload 5, 2) := by decide +kernel
theorem d5 : decode yB 5 = .ok (.iload 4, 2) := by decide +kernel
theorem d7 : decode yB 7 = .ok (.if_icmp (.ge) 37, 3) := by decide +kernel
theorem d10 : decode yB 10 = .ok (.aload_n 0, 1) := by decide +kernel
theorem d11 : decode yB 11 = .ok (.iload_n 1, 1) := by decide +kernel
theorem d12 : decode yB 12 = .ok (.caload, 1) := by decide +kernel
theorem d13 : decode yB 13 = .ok (.istore 6, 2) := by decide +kernel
theorem d15 : decode yB 15 = .ok (.iload 6, 2) := by decide +kernel
theorem d17 : decode yB 17 = .ok (.sipush 255, 3) := by decide +kernel
theorem d20 : decode yB 20 = .ok (.if_icmp (.le) 6, 3) := by decide +kernel
theorem d26 : decode yB 26 = .ok (.aload_n 2, 1) := by decide +kernel
theorem d27 : decode yB 27 = .ok (.iload_n 3, 1) := by decide +kernel
theorem d28 : decode yB 28 = .ok (.iload 6, 2) := by decide +kernel
theorem d30 : decode yB 30 = .ok (.i2b, 1) := by decide +kernel
theorem d31 : decode yB 31 = .ok (.bastore, 1) := by decide +kernel
theorem d32 : decode yB 32 = .ok (.iinc 1 1, 3) := by decide +kernel
theorem d35 : decode yB 35 = .ok (.iinc 3 1, 3) := by decide +kernel
theorem d38 : decode yB 38 = .ok (.iinc 5 1, 3) := by decide +kernel
theorem d41 : decode yB 41 = .ok (.goto (-38), 3) := by decide +kernel
theorem d44 : decode yB 44 = .ok (.iload 4, 2) := by decide +kernel
theorem d46 : decode yB 46 = .ok (.ireturn, 1) := by decide +kernel
def site : List Cond := []
def tab : Cond := tabOf yN yB 7 (some .int) site
def P (b : Addr) (A : Cell) (d : Addr) (B : Cell) (o q len : Nat) (args : Array Value) (s : State) : Prop := args = #[.ref b, .int (Int32.ofNat o), .ref d, .int (Int32.ofNat q), .int (Int32.ofNat len)] ∧ Ch b A s ∧ Arr .byte d B s ∧ b ≠ d ∧ o + len ≤ A.slots.size ∧ q + len ≤ B.slots.size ∧ ∀ i, i < len → ¬ 255 < cv A (o + i)
def E (b : Addr) (A : Cell) (d : Addr) (B : Cell) (o q len : Nat) (r : Option Value) (s u : State) : Prop := r = some (.int (Int32.ofNat len)) ∧ ∃ B', Put d B' s u ∧ Laid B B' q (q + len) (fun j => Value.int (lo8 (cv A (o + (j - q)))))
/-- no char of the range above 255: len; the places written hold each char's low byte -/
theorem law (l : Launch) (b : Addr) (A : Cell) (d : Addr) (B : Cell) (o q len : Nat) : Law l yN 5 5 0 0 yB 7 (some .int) site (P b A d B o q len) (E b A d B o q len) (copyLocs d q len) 0 0 := by
  refine Law.of_walk (plainFor_of_name (by decide +kernel)) (by decide +kernel) (by decide +kernel) (by decide) (fun _ _ h => by rw [h.1]; rfl) (fun _ U U' hal hh h => ⟨h.1, h.2.1.mv hal hh, h.2.2.1.mv hal hh, h.2.2.2⟩) (fun r U U' V V' h1 hal h2 h => ⟨h.1, h.2.elim fun B' q => ⟨B', q.1.mv h1 h2, q.2⟩⟩) ?_
  intro p e s m args below meth c s₁ X0 hexec hbytes hml hret hlk hnm hown hh0 W hP
  obtain ⟨rfl, hA, hB, hne, l1, l2, hp⟩ := hP
  have c1 : Steps p.tables e below (s₁.setTop (entryFrame m #[.ref b, .int (Int32.ofNat o), .ref d, .int (Int32.ofNat q), .int (Int32.ofNat len)] 7)) (s₁.setTop (mkF m 0 #[.val (.ref b), .val (.int (Int32.ofNat o)), .val (.ref d), .val (.int (Int32.ofNat q)), .val (.int (Int32.ofNat len)), .unset, .unset] [])) := entry rfl
  have hA0 := hA.1.mv X0.warmed.alike hh0
  have hB0 := hB.mv X0.warmed.alike hh0
  have a31 := hA.1.2.2.2
  have c2 : Steps p.tables e below (s₁.setTop (entryFrame m #[.ref b, .int (Int32.ofNat o), .ref d, .int (Int32.ofNat q), .int (Int32.ofNat len)] 7)) (s₁.setTop (mkF m 3 #[.val (.ref b), .val (.int (Int32.ofNat o)), .val (.ref d), .val (.int (Int32.ofNat q)), .val (.int (Int32.ofNat len)), .val (.int 0), .unset] [])) := c1.trans (by
    refine iconstV X0.here hexec rfl 0 (hb hbytes d0) (by decide) ?_
    refine XS.istore X0.here hexec rfl (hb hbytes d1) rfl rfl ?_
    exact Steps.refl _)
  have loop : ∀ (r i : Nat), i + r = len → ∀ (z : Slot), (z = .unset ∨ ∃ w, z = .val w ∧ w.category = 1) → ∀ (Tl : State) (Bk : Cell), Stand p l e { frames := 0, locals := 0, cells := 0, slots := 0 } s m #[.ref b, .int (Int32.ofNat o), .ref d, .int (Int32.ofNat q), .int (Int32.ofNat len)] below meth c Tl ([] ++ copyLocs d q i) 0 0 → Put d Bk s₁ Tl → Laid B Bk q (q + i) (fun j => Value.int (lo8 (cv A (o + (j - q))))) →
      Steps p.tables e below (s₁.setTop (entryFrame m #[.ref b, .int (Int32.ofNat o), .ref d, .int (Int32.ofNat q), .int (Int32.ofNat len)] 7)) (Tl.setTop (mkF m 3 #[.val (.ref b), .val (.int (Int32.ofNat (o + i))), .val (.ref d), .val (.int (Int32.ofNat (q + i))), .val (.int (Int32.ofNat len)), .val (.int (Int32.ofNat i)), z] [])) → ∃ (T' : State) (B' : Cell) (z' : Slot), Stand p l e { frames := 0, locals := 0, cells := 0, slots := 0 } s m #[.ref b, .int (Int32.ofNat o), .ref d, .int (Int32.ofNat q), .int (Int32.ofNat len)] below meth c T' ([] ++ copyLocs d q len) 0 0 ∧ Put d B' s₁ T' ∧ Laid B B' q (q + len) (fun j => Value.int (lo8 (cv A (o + (j - q))))) ∧
      Steps p.tables e below (s₁.setTop (entryFrame m #[.ref b, .int (Int32.ofNat o), .ref d, .int (Int32.ofNat q), .int (Int32.ofNat len)] 7)) (T'.setTop (mkF m 3 #[.val (.ref b), .val (.int (Int32.ofNat (o + len))), .val (.ref d), .val (.int (Int32.ofNat (q + len))), .val (.int (Int32.ofNat len)), .val (.int (Int32.ofNat len)), z'] [])) := by
    intro r
    induction r with
    | zero =>
      intro i hi z hz Tl Bk Xl pl fl cl
      have hil : i = len := by omega
      rw [hil] at Xl fl cl
      exact ⟨Tl, Bk, z, Xl, pl, fl, cl⟩
    | succ r ih =>
      intro i hi z hz Tl Bk Xl pl fl cl
      have all := X0.warmed.alike.symm.trans Xl.warmed.alike
      have hAl := hA0.keep all (pl.other hne hA0.1)
      have hBk := hB0.like all pl.1 fl.1 fl.2.1 fl.2.2.1
      have hlt : q + i < Bk.slots.size := by rw [fl.2.2.1]; omega
      have c3 : Steps p.tables e below (s₁.setTop (entryFrame m #[.ref b, .int (Int32.ofNat o), .ref d, .int (Int32.ofNat q), .int (Int32.ofNat len)] 7)) (Tl.setTop (mkF m 12 #[.val (.ref b), .val (.int (Int32.ofNat (o + i))), .val (.ref d), .val (.int (Int32.ofNat (q + i))), .val (.int (Int32.ofNat len)), .val (.int (Int32.ofNat i)), z] [.int (Int32.ofNat (o + i)), .ref b])) := cl.trans (by
        refine XS.iload Xl.here hexec rfl (hb hbytes d3) rfl ?_
        refine XS.iload Xl.here hexec rfl (hb hbytes d5) rfl ?_
        refine XS.icmpNo Xl.here hexec rfl (hb hbytes d7) rfl (ii_ge_f (lt32 (by omega) (by omega))) ?_
        refine XS.aloadN Xl.here hexec rfl (hb hbytes d10) rfl rfl ?_
        refine XS.iloadN Xl.here hexec rfl (hb hbytes d11) rfl ?_
        exact Steps.refl _)
      have c4 : Steps p.tables e below (s₁.setTop (entryFrame m #[.ref b, .int (Int32.ofNat o), .ref d, .int (Int32.ofNat q), .int (Int32.ofNat len)] 7)) (Tl.setTop (mkF m 13 #[.val (.ref b), .val (.int (Int32.ofNat (o + i))), .val (.ref d), .val (.int (Int32.ofNat (q + i))), .val (.int (Int32.ofNat len)), .val (.int (Int32.ofNat i)), z] [.int (cv A (o + i))])) := c3.trans (by
        refine Xl.aget hexec hAl rfl (hA.get (i := o + i) (by omega)) rfl rfl (hb hbytes d12) ?_
        exact Steps.refl _)
      have c5 : Steps p.tables e below (s₁.setTop (entryFrame m #[.ref b, .int (Int32.ofNat o), .ref d, .int (Int32.ofNat q), .int (Int32.ofNat len)] 7)) (Tl.setTop (mkF m 15 #[.val (.ref b), .val (.int (Int32.ofNat (o + i))), .val (.ref d), .val (.int (Int32.ofNat (q + i))), .val (.int (Int32.ofNat len)), .val (.int (Int32.ofNat i)), .val (.int (cv A (o + i)))] [])) := c4.trans (by
        refine XS.istoreS Xl.here hexec rfl (hb hbytes d13) rfl rfl hz ?_
        exact Steps.refl _)
      have c6 : Steps p.tables e below (s₁.setTop (entryFrame m #[.ref b, .int (Int32.ofNat o), .ref d, .int (Int32.ofNat q), .int (Int32.ofNat len)] 7)) (Tl.setTop (mkF m 31 #[.val (.ref b), .val (.int (Int32.ofNat (o + i))), .val (.ref d), .val (.int (Int32.ofNat (q + i))), .val (.int (Int32.ofNat len)), .val (.int (Int32.ofNat i)), .val (.int (cv A (o + i)))] [.int (lo8 (cv A (o + i))), .int (Int32.ofNat (q + i)), .ref d])) := c5.trans (by
        refine XS.iload Xl.here hexec rfl (hb hbytes d15) rfl ?_
        refine sipushV Xl.here hexec rfl 255 (hb hbytes d17) (by decide) ?_
        refine XS.icmpYes Xl.here hexec rfl (pc0 := 20) rfl (hb hbytes d20) rfl (ii_le_t (hp i (by omega))) (by decide) rfl ?_
        refine XS.aloadN Xl.here hexec rfl (hb hbytes d26) rfl rfl ?_
        refine XS.iloadN Xl.here hexec rfl (hb hbytes d27) rfl ?_
        refine XS.iload Xl.here hexec rfl (hb hbytes d28) rfl ?_
        refine i2b Xl.here hexec rfl (hb hbytes d30) rfl ?_
        exact Steps.refl _)
      obtain ⟨T7, X7, p7, st7⟩ := Xl.aput hexec hBk rfl hlt rfl (fits_lo8 (cv A (o + i))) (g := (mkF m 31 #[.val (.ref b), .val (.int (Int32.ofNat (o + i))), .val (.ref d), .val (.int (Int32.ofNat (q + i))), .val (.int (Int32.ofNat len)), .val (.int (Int32.ofNat i)), .val (.int (cv A (o + i)))] [.int (lo8 (cv A (o + i))), .int (Int32.ofNat (q + i)), .ref d])) rfl (rest := []) rfl (hb hbytes d31)
      have c8 : Steps p.tables e below (s₁.setTop (entryFrame m #[.ref b, .int (Int32.ofNat o), .ref d, .int (Int32.ofNat q), .int (Int32.ofNat len)] 7)) (T7.setTop (mkF m 32 #[.val (.ref b), .val (.int (Int32.ofNat (o + i))), .val (.ref d), .val (.int (Int32.ofNat (q + i))), .val (.int (Int32.ofNat len)), .val (.int (Int32.ofNat i)), .val (.int (cv A (o + i)))] [])) := c6.trans (st7 _ (Steps.refl _))
      have c9 : Steps p.tables e below (s₁.setTop (entryFrame m #[.ref b, .int (Int32.ofNat o), .ref d, .int (Int32.ofNat q), .int (Int32.ofNat len)] 7)) (T7.setTop (mkF m 3 #[.val (.ref b), .val (.int (Int32.ofNat (o + i) + 1)), .val (.ref d), .val (.int (Int32.ofNat (q + i) + 1)), .val (.int (Int32.ofNat len)), .val (.int (Int32.ofNat i + 1)), .val (.int (cv A (o + i)))] [])) := c8.trans (by
        refine iincV X7.here hexec rfl 1 (hb hbytes d32) (by decide) rfl rfl ?_
        refine iincV X7.here hexec rfl 1 (hb hbytes d35) (by decide) rfl rfl ?_
        refine iincV X7.here hexec rfl 1 (hb hbytes d38) (by decide) rfl rfl ?_
        refine XS.goto X7.here hexec rfl (pc0 := 41) rfl (hb hbytes d41) (by decide) rfl ?_
        exact Steps.refl _)
      have c10 : Steps p.tables e below (s₁.setTop (entryFrame m #[.ref b, .int (Int32.ofNat o), .ref d, .int (Int32.ofNat q), .int (Int32.ofNat len)] 7)) (T7.setTop (mkF m 3 #[.val (.ref b), .val (.int (Int32.ofNat (o + (i + 1)))), .val (.ref d), .val (.int (Int32.ofNat (q + (i + 1)))), .val (.int (Int32.ofNat len)), .val (.int (Int32.ofNat (i + 1))), .val (.int (cv A (o + i)))] [])) := by
        have := c9
        rw [succ32, succ32, succ32] at this
        exact this
      exact ih (i + 1) (by omega) _ (Or.inr ⟨_, rfl, rfl⟩) T7 _ (by rw [copyLocs_step, ← List.append_assoc]; exact X7) (pl.trans p7) (fl.step (by omega) hlt (by simp)) c10
  obtain ⟨T9, B9, z9, X9, p9, f9, g9⟩ := loop len 0 (by omega) .unset (Or.inl rfl) s₁ B (by simpa [copyLocs] using X0) ⟨hB0.1, fun _ _ => rfl, rfl⟩ (Laid.zero _ _ _) c2
  have c11 : Steps p.tables e below (s₁.setTop (entryFrame m #[.ref b, .int (Int32.ofNat o), .ref d, .int (Int32.ofNat q), .int (Int32.ofNat len)] 7)) (T9.setTop (mkF m 46 #[.val (.ref b), .val (.int (Int32.ofNat (o + len))), .val (.ref d), .val (.int (Int32.ofNat (q + len))), .val (.int (Int32.ofNat len)), .val (.int (Int32.ofNat len)), z9] [.int (Int32.ofNat len)])) := g9.trans (by
    refine XS.iload X9.here hexec rfl (hb hbytes d3) rfl ?_
    refine XS.iload X9.here hexec rfl (hb hbytes d5) rfl ?_
    refine XS.icmpYes X9.here hexec rfl (pc0 := 7) rfl (hb hbytes d7) rfl (ii_ge_t (nlt32 (by omega) (Nat.le_refl _))) (by decide) rfl ?_
    refine XS.iload X9.here hexec rfl (hb hbytes d44) rfl ?_
    exact Steps.refl _)
  exact ⟨T9, some (.int (Int32.ofNat len)), _, _, _, X9, by simp, rfl, rfl, (fun h => by cases h), ⟨rfl, B9, p9.from hh0, f9⟩, fun fs hl => c11.trans (X9.ireturnOut hexec hret rfl (Or.inl rfl) (hb hbytes d46) hl)⟩
end Cmp5
namespace Cmp3
def yN : MethodName := ⟨"java/lang/StringUTF16", "compress", "([CII)[B"⟩
abbrev yB : ByteArray := jdk_52_method_16_code
theorem d0 : decode yB 0 = .ok (.iload_n 2, 1) := by decide +kernel
theorem d1 : decode yB 1 = .ok (.newarray .byte, 2) := by decide +kernel
theorem d3 : decode yB 3 = .ok (.astore_n 3, 1) := by decide +kernel
theorem d4 : decode yB 4 = .ok (.aload_n 0, 1) := by decide +kernel
theorem d5 : decode yB 5 = .ok (.iload_n 1, 1) := by decide +kernel
theorem d6 : decode yB 6 = .ok (.aload_n 3, 1) := by decide +kernel
theorem d7 : decode yB 7 = .ok (.iconst 0, 1) := by decide +kernel
theorem d8 : decode yB 8 = .ok (.iload_n 2, 1) := by decide +kernel
theorem d9 : decode yB 9 = .ok (.invokestatic 115, 3) := by decide +kernel
theorem d12 : decode yB 12 = .ok (.istore 4, 2) := by decide +kernel
theorem d14 : decode yB 14 = .ok (.iload 4, 2) := by decide +kernel
theorem d16 : decode yB 16 = .ok (.iload_n 2, 1) := by decide +kernel
theorem d17 : decode yB 17 = .ok (.if_icmp (.eq) 40, 3) := by decide +kernel
theorem d57 : decode yB 57 = .ok (.aload_n 3, 1) := by decide +kernel
theorem d58 : decode yB 58 = .ok (.areturn, 1) := by decide +kernel
def site : List Cond := [.arrayClass .byte, Cmp5.tab] ++ staticW U16 115 Cmp5.yN
def tab : Cond := tabOf yN yB 6 (some (.array .byte)) site
def P (b : Addr) (A : Cell) (o len : Nat) (args : Array Value) (s : State) : Prop := args = #[.ref b, .int (Int32.ofNat o), .int (Int32.ofNat len)] ∧ Ch b A s ∧ o + len ≤ A.slots.size ∧ len ≤ 536870912 ∧ ∀ i, i < len → ¬ 255 < cv A (o + i)
def E (b : Addr) (A : Cell) (o len : Nat) (r : Option Value) (s u : State) : Prop := NewArr .byte "[B" len (fun j => .int (lo8 (cv A (o + j)))) r s u ∧ u.heap.size = s.heap.size + 1
/-- no char of the range above 255: a new byte[] of their low bytes -/
theorem law (l : Launch) (b : Addr) (A : Cell) (o len : Nat) : Law l yN 3 3 1 18 yB 6 (some (.array .byte)) site (P b A o len) (E b A o len) [] 1 len := by
  refine Law.of_walk (plainFor_of_name (by decide +kernel)) (by decide +kernel) (by decide +kernel) (by decide) (fun _ _ h => by rw [h.1]; rfl) (fun _ U U' hal hh h => ⟨h.1, h.2.1.mv hal hh, h.2.2⟩) (fun r U U' V V' h1 hal h2 h => ⟨NewArr.mv r U U' V V' h1 hal h2 h.1, by rw [h1, h2]; exact h.2⟩) ?_
  intro p e s m args below meth c s₁ X0 hexec hbytes hml hret hlk hnm hown hh0 W hP
  obtain ⟨rfl, hA, l1, l2, hp⟩ := hP
  have a31 := hA.1.2.2.2
  have c1 : Steps p.tables e below (s₁.setTop (entryFrame m #[.ref b, .int (Int32.ofNat o), .int (Int32.ofNat len)] 6)) (s₁.setTop (mkF m 0 #[.val (.ref b), .val (.int (Int32.ofNat o)), .val (.int (Int32.ofNat len)), .unset, .unset, .unset] [])) := entry rfl
  have c2 : Steps p.tables e below (s₁.setTop (entryFrame m #[.ref b, .int (Int32.ofNat o), .int (Int32.ofNat len)] 6)) (s₁.setTop (mkF m 1 #[.val (.ref b), .val (.int (Int32.ofNat o)), .val (.int (Int32.ofNat len)), .unset, .unset, .unset] [.int (Int32.ofNat len)])) := c1.trans (by
    refine XS.iloadN X0.here hexec rfl (hb hbytes d0) rfl ?_
    exact Steps.refl _)
  obtain ⟨T3, B3, X3, ba3, bs3, bv3, bh3, bf3, st3⟩ := X0.anew hexec (atype := .byte) (wk W (.arrayClass .byte)) rfl (by show len * 1 ≤ _; omega) (by omega) (g := (mkF m 1 #[.val (.ref b), .val (.int (Int32.ofNat o)), .val (.int (Int32.ofNat len)), .unset, .unset, .unset] [.int (Int32.ofNat len)])) rfl (hb hbytes d1) (rest := []) rfl (Nat.le_refl _) (by show 0 + len ≤ len; omega)
  rw [hh0] at ba3 st3
  have kp3 : XT.Kept s T3 := (XT.Kept.of_eq hh0).push bh3
  have hA3 := hA.keep X3.warmed.alike (kp3 _ _ hA.1.1)
  have hne : b ≠ s.heap.size := hA.1.ne
  have c4 : Steps p.tables e below (s₁.setTop (entryFrame m #[.ref b, .int (Int32.ofNat o), .int (Int32.ofNat len)] 6)) (T3.setTop (mkF m 3 #[.val (.ref b), .val (.int (Int32.ofNat o)), .val (.int (Int32.ofNat len)), .unset, .unset, .unset] [.ref s.heap.size])) := c2.trans (st3 _ (Steps.refl _))
  have c5 : Steps p.tables e below (s₁.setTop (entryFrame m #[.ref b, .int (Int32.ofNat o), .int (Int32.ofNat len)] 6)) (T3.setTop (mkF m 9 #[.val (.ref b), .val (.int (Int32.ofNat o)), .val (.int (Int32.ofNat len)), .val (.ref s.heap.size), .unset, .unset] [.int (Int32.ofNat len), .int 0, .ref s.heap.size, .int (Int32.ofNat o), .ref b])) := c4.trans (by
    refine XS.astoreN X3.here hexec rfl (hb hbytes d3) rfl rfl rfl ?_
    refine XS.aloadN X3.here hexec rfl (hb hbytes d4) rfl rfl ?_
    refine XS.iloadN X3.here hexec rfl (hb hbytes d5) rfl ?_
    refine XS.aloadN X3.here hexec rfl (hb hbytes d6) rfl rfl ?_
    refine iconstV X3.here hexec rfl 0 (hb hbytes d7) (by decide) ?_
    refine XS.iloadN X3.here hexec rfl (hb hbytes d8) rfl ?_
    exact Steps.refl _)
  obtain ⟨v6, T6, X6, E6, g6⟩ := X3.callS hexec (Cmp5.law l b A s.heap.size B3 o 0 len) hown (wks W (staticW U16 115 Cmp5.yN)) (wk W Cmp5.tab) (W := 0) (Nat.le_of_ble_eq_true rfl) (Nat.le_of_ble_eq_true rfl) (Nat.le_refl _) (by show 0 + len + 0 ≤ len; omega) (g := (mkF m 9 #[.val (.ref b), .val (.int (Int32.ofNat o)), .val (.int (Int32.ofNat len)), .val (.ref s.heap.size), .unset, .unset] [.int (Int32.ofNat len), .int (Int32.ofNat 0), .ref s.heap.size, .int (Int32.ofNat o), .ref b])) rfl (by rw [hml]; rfl) c5 (argsL := [.ref b, .int (Int32.ofNat o), .ref s.heap.size, .int (Int32.ofNat 0), .int (Int32.ofNat len)]) (rest := []) rfl rfl (by show 2 * 0 + 0 ≤ _; decide) (hb hbytes d9) (⟨rfl, hA3, ba3, hne, l1, by rw [bs3]; simp, hp⟩)
  obtain ⟨rfl, B6, p6, f6⟩ := E6
  have c7 : Steps p.tables e below (s₁.setTop (entryFrame m #[.ref b, .int (Int32.ofNat o), .int (Int32.ofNat len)] 6)) (T6.setTop (mkF m 12 #[.val (.ref b), .val (.int (Int32.ofNat o)), .val (.int (Int32.ofNat len)), .val (.ref s.heap.size), .unset, .unset] [.int (Int32.ofNat len)])) := g6
  have c8 : Steps p.tables e below (s₁.setTop (entryFrame m #[.ref b, .int (Int32.ofNat o), .int (Int32.ofNat len)] 6)) (T6.setTop (mkF m 58 #[.val (.ref b), .val (.int (Int32.ofNat o)), .val (.int (Int32.ofNat len)), .val (.ref s.heap.size), .val (.int (Int32.ofNat len)), .unset] [.ref s.heap.size])) := c7.trans (by
    refine XS.istore X6.here hexec rfl (hb hbytes d12) rfl rfl ?_
    refine XS.iload X6.here hexec rfl (hb hbytes d14) rfl ?_
    refine XS.iloadN X6.here hexec rfl (hb hbytes d16) rfl ?_
    refine XS.icmpYes X6.here hexec rfl (pc0 := 17) rfl (hb hbytes d17) rfl (ii_eq_t rfl) (by decide) rfl ?_
    refine XS.aloadN X6.here hexec rfl (hb hbytes d57) rfl rfl ?_
    exact Steps.refl _)
  have X8 := X6.wide (L' := []) (cells' := 1) (slots' := len) (fun x hx hlt => by
    simp only [List.nil_append, copyLocs, List.mem_map, List.mem_range] at hx
    obtain ⟨i, -, rfl⟩ := hx
    exact absurd hlt (Nat.lt_irrefl _)) (Nat.le_refl _) (by omega)
  exact ⟨T6, some (.ref s.heap.size), _, _, _, X8, rfl, rfl, rfl, (fun h => by cases h), ⟨⟨rfl, B6, ba3.like (X3.warmed.alike.symm.trans X6.warmed.alike) p6.1 f6.1 f6.2.1 f6.2.2.1, f6.2.1.trans bv3, by rw [X6.warmed.alike.findClass, f6.1]; exact bf3, by rw [f6.2.2.1, bs3]; simp, fun j hj => by rw [f6.2.2.2 j, if_pos (by omega)]; rfl, kp3.put p6 (Nat.le_refl _)⟩, by rw [p6.2.2, bh3, hh0]; simp⟩, fun fs hl => c8.trans (X8.areturnOut hexec rfl hret rfl (hb hbytes d58) hl)⟩
end Cmp3
namespace CodL
def yN : MethodName := ⟨"java/lang/StringUTF16", "coderFromArrayLen", "([BI)B"⟩
abbrev yB : ByteArray := jdk_52_method_15_code
theorem d0 : decode yB 0 = .ok (.iload_n 1, 1) := by decide +kernel
theorem d1 : decode yB 1 = .ok (.aload_n 0, 1) := by decide +kernel
theorem d2 : decode yB 2 = .ok (.arraylength, 1) := by decide +kernel
theorem d3 : decode yB 3 = .ok (.isub, 1) := by decide +kernel
theorem d4 : decode yB 4 = .ok (.bipush 31, 2) := by decide +kernel
theorem d6 : decode yB 6 = .ok (.iushr, 1) := by decide +kernel
theorem d7 : decode yB 7 = .ok (.i2b, 1) := by decide +kernel
theorem d8 : decode yB 8 = .ok (.ireturn, 1) := by decide +kernel
def site : List Cond := []
def tab : Cond := tabOf yN yB 2 (some .byte) site
def P (d : Addr) (B : Cell) (args : Array Value) (s : State) : Prop := args = #[.ref d, .int (Int32.ofNat B.slots.size)] ∧ Arr .byte d B s
def E (r : Option Value) (s u : State) : Prop := XT.PureE (some (.int 0)) r s u
/-- an array as long as the number of chars: LATIN1 -/
theorem law (l : Launch) (d : Addr) (B : Cell) : Law l yN 2 2 0 0 yB 2 (some .byte) site (P d B) E [] 0 0 := by
  refine Law.of_walk (plainFor_of_name (by decide +kernel)) (by decide +kernel) (by decide +kernel) (by decide) (fun _ _ h => by rw [h.1]; rfl) (fun _ U U' hal hh h => ⟨h.1, h.2.mv hal hh⟩) (fun r U U' V V' h1 hal h2 h => XT.PureE.mv r U U' V V' h1 hal h2 h) ?_
  intro p e s m args below meth c s₁ X0 hexec hbytes hml hret hlk hnm hown hh0 W hP
  obtain ⟨rfl, hB⟩ := hP
  have hB0 := hB.mv X0.warmed.alike hh0
  have c1 : Steps p.tables e below (s₁.setTop (entryFrame m #[.ref d, .int (Int32.ofNat B.slots.size)] 2)) (s₁.setTop (mkF m 0 #[.val (.ref d), .val (.int (Int32.ofNat B.slots.size))] [])) := entry rfl
  have c2 : Steps p.tables e below (s₁.setTop (entryFrame m #[.ref d, .int (Int32.ofNat B.slots.size)] 2)) (s₁.setTop (mkF m 2 #[.val (.ref d), .val (.int (Int32.ofNat B.slots.size))] [.ref d, .int (Int32.ofNat B.slots.size)])) := c1.trans (by
    refine XS.iloadN X0.here hexec rfl (hb hbytes d0) rfl ?_
    refine XS.aloadN X0.here hexec rfl (hb hbytes d1) rfl rfl ?_
    exact Steps.refl _)
  have c3 : Steps p.tables e below (s₁.setTop (entryFrame m #[.ref d, .int (Int32.ofNat B.slots.size)] 2)) (s₁.setTop (mkF m 8 #[.val (.ref d), .val (.int (Int32.ofNat B.slots.size))] [.int (lo8 (ushr (Int32.ofNat B.slots.size - Int32.ofNat B.slots.size) 31))])) := c2.trans (by
    refine X0.alen hexec hB0 rfl rfl (hb hbytes d2) ?_
    refine XS.isub X0.here hexec rfl (hb hbytes d3) rfl ?_
    refine bipushV X0.here hexec rfl 31 (hb hbytes d4) (by decide) ?_
    refine iushr X0.here hexec rfl (hb hbytes d6) rfl ?_
    refine i2b X0.here hexec rfl (hb hbytes d7) rfl ?_
    exact Steps.refl _)
  have e0 : lo8 (ushr (Int32.ofNat B.slots.size - Int32.ofNat B.slots.size) 31) = 0 := by rw [Int32.sub_self]; decide
  rw [e0] at c3
  exact ⟨s₁, some (.int 0), _, _, _, X0, rfl, rfl, rfl, (fun h => by cases h), ⟨rfl, hh0⟩, fun fs hl => c3.trans (X0.ireturnOut hexec hret rfl (Or.inr (Or.inr (Or.inl rfl))) (hb hbytes d8) hl)⟩
end CodL
/-- the String at a is Latin-1 over a new byte[] (the heap's one new cell): the low bytes of the len chars of A from o on; every cell but a is kept -/
def Got (a : Addr) (D : Cell) (fV fC : Field) (A : Cell) (o len : Nat) (r : Option Value) (s u : State) : Prop := r = none ∧ ∃ D' V : Cell, Blank "java/lang/String" a D' u ∧ Same D D' [fV.slot, fC.slot] ∧ D'.slots[fV.slot]? = some (.ref s.heap.size) ∧ D'.slots[fC.slot]? = some (.int 0) ∧ Arr .byte s.heap.size V u ∧ V.vm = .none ∧ u.vm.findClass "[B" = some V.cls ∧ V.slots.size = len ∧ (∀ j, j < len → V.slots[j]? = some (.int (lo8 (cv A (o + j))))) ∧ (∀ (y : Addr) (c : Cell), y ≠ a → s.heap[y]? = some c → u.heap[y]? = some c) ∧ u.heap.size = s.heap.size + 1
theorem Got.mv {a : Addr} {D A : Cell} {fV fC : Field} {o len : Nat} : ∀ r (U U' V V' : State), U'.heap = U.heap → V.vm.Alike V'.vm → V'.heap = V.heap → Got a D fV fC A o len r U V → Got a D fV fC A o len r U' V' :=
  fun r U U' V V' h1 hal h2 ⟨e0, D', X, a1, a2, a3, a4, a5, a6, a7, a8, a9, a10, a11⟩ => ⟨e0, D', X, a1.mv hal h2, a2, by rw [h1]; exact a3, a4, by rw [h1]; exact a5.mv hal h2, a6, by rw [hal.findClass]; exact a7, a8, a9, by rw [h1, h2]; exact a10, by rw [h1, h2]; exact a11⟩
namespace New4
def yN : MethodName := ⟨"java/lang/String", "<init>", "([CIILjava/lang/Void;)V"⟩
abbrev yB : ByteArray := jdk_42_method_149_code
theorem d0 : decode yB 0 = .ok (.aload_n 0, 1) := by decide +kernel
theorem d1 : decode yB 1 = .ok (.invokespecial 1, 3) := by decide +kernel
theorem d4 : decode yB 4 = .ok (.iload_n 3, 1) := by decide +kernel
theorem d5 : decode yB 5 = .ok (.ifCond (.ne) 22, 3) := by decide +kernel
theorem d27 : decode yB 27 = .ok (.getstatic 38, 3) := by decide +kernel
theorem d30 : decode yB 30 = .ok (.ifCond (.eq) 28, 3) := by decide +kernel
theorem d33 : decode yB 33 = .ok (.aload_n 1, 1) := by decide +kernel
theorem d34 : decode yB 34 = .ok (.iload_n 2, 1) := by decide +kernel
theorem d35 : decode yB 35 = .ok (.iload_n 3, 1) := by decide +kernel
theorem d36 : decode yB 36 = .ok (.invokestatic 177, 3) := by decide +kernel
theorem d39 : decode yB 39 = .ok (.astore 5, 2) := by decide +kernel
theorem d41 : decode yB 41 = .ok (.aload_n 0, 1) := by decide +kernel
theorem d42 : decode yB 42 = .ok (.aload 5, 2) := by decide +kernel
theorem d44 : decode yB 44 = .ok (.iload_n 3, 1) := by decide +kernel
theorem d45 : decode yB 45 = .ok (.invokestatic 47, 3) := by decide +kernel
theorem d48 : decode yB 48 = .ok (.putfield 15, 3) := by decide +kernel
theorem d51 : decode yB 51 = .ok (.aload_n 0, 1) := by decide +kernel
theorem d52 : decode yB 52 = .ok (.aload 5, 2) := by decide +kernel
theorem d54 : decode yB 54 = .ok (.putfield 9, 3) := by decide +kernel
theorem d57 : decode yB 57 = .ok (.return_, 1) := by decide +kernel
def site : List Cond := [.fieldLink "java/lang/String" 38 "java/lang/String" "COMPACT_STRINGS" "Z", Cmp3.tab, CodL.tab, .laysFinal "java/lang/String" "java/lang/String" "value" "[B", .fieldLink "java/lang/String" 9 "java/lang/String" "value" "[B", .laysFinal "java/lang/String" "java/lang/String" "coder" "B", .fieldLink "java/lang/String" 15 "java/lang/String" "coder" "B"] ++ objW "java/lang/String" 1 ++ staticW "java/lang/String" 177 Cmp3.yN ++ staticW "java/lang/String" 47 CodL.yN
def tab : Cond := tabOf yN yB 6 none site
def P (a : Addr) (D : Cell) (fV fC : Field) (b : Addr) (A : Cell) (z : Int32) (o len : Nat) (args : Array Value) (s : State) : Prop := args = #[.ref a, .ref b, .int (Int32.ofNat o), .int (Int32.ofNat len), .null] ∧ Blank "java/lang/String" a D s ∧ Found "java/lang/String" "value" "[B" fV s ∧ Found "java/lang/String" "coder" "B" fC s ∧ Ch b A s ∧ StaticIs s "java/lang/String" "COMPACT_STRINGS" "Z" (.int z) ∧ ¬ z = 0 ∧ 0 < len ∧ o + len ≤ A.slots.size ∧ len ≤ 536870912 ∧ ∀ i, i < len → ¬ 255 < cv A (o + i)
def E (a : Addr) (D : Cell) (fV fC : Field) (A : Cell) (o len : Nat) (r : Option Value) (s u : State) : Prop := Got a D fV fC A o len r s u
/-- len > 0, no char of the range above 255: a Latin-1 String of their low bytes -/
theorem law (l : Launch) (a : Addr) (D : Cell) (fV fC : Field) (b : Addr) (A : Cell) (z : Int32) (o len : Nat) : Law l yN 5 4 2 35 yB 6 none site (P a D fV fC b A z o len) (E a D fV fC A o len) [⟨a, fC.slot⟩, ⟨a, fV.slot⟩] 1 len := by
  refine Law.of_walk (plainFor_of_name (by decide +kernel)) (by decide +kernel) (by decide +kernel) (by decide) (fun _ _ h => by rw [h.1]; rfl) (fun _ U U' hal hh h => ⟨h.1, h.2.1.mv hal hh, h.2.2.1.al hal, h.2.2.2.1.al hal, h.2.2.2.2.1.mv hal hh, h.2.2.2.2.2.1.there hal hh, h.2.2.2.2.2.2⟩) (fun r U U' V V' h1 hal h2 h => Got.mv r U U' V V' h1 hal h2 h) ?_
  intro p e s m args below meth c s₁ X0 hexec hbytes hml hret hlk hnm hown hh0 W hP
  obtain ⟨rfl, hB, f1, f2, hA, s1, hz, l0, l1, l2, hp⟩ := hP
  have a31 := hA.1.2.2.2
  have c1 : Steps p.tables e below (s₁.setTop (entryFrame m #[.ref a, .ref b, .int (Int32.ofNat o), .int (Int32.ofNat len), .null] 6)) (s₁.setTop (mkF m 0 #[.val (.ref a), .val (.ref b), .val (.int (Int32.ofNat o)), .val (.int (Int32.ofNat len)), .val .null, .unset] [])) := entry rfl
  have c2 : Steps p.tables e below (s₁.setTop (entryFrame m #[.ref a, .ref b, .int (Int32.ofNat o), .int (Int32.ofNat len), .null] 6)) (s₁.setTop (mkF m 1 #[.val (.ref a), .val (.ref b), .val (.int (Int32.ofNat o)), .val (.int (Int32.ofNat len)), .val .null, .unset] [.ref a])) := c1.trans (by
    refine XS.aloadN X0.here hexec rfl (hb hbytes d0) rfl rfl ?_
    exact Steps.refl _)
  obtain ⟨T3, X3, q3, st3⟩ := X0.oinit hexec hown (wks W (objW "java/lang/String" 1)) (g := (mkF m 1 #[.val (.ref a), .val (.ref b), .val (.int (Int32.ofNat o)), .val (.int (Int32.ofNat len)), .val .null, .unset] [.ref a])) rfl (by rw [hml]; rfl) (rest := []) rfl (hb hbytes d1) (W := 0) (by show 2 * 0 + 0 ≤ _; decide) (Nat.le_of_ble_eq_true rfl) (Nat.le_of_ble_eq_true rfl)
  have hh3 := q3.trans hh0
  have c4 : Steps p.tables e below (s₁.setTop (entryFrame m #[.ref a, .ref b, .int (Int32.ofNat o), .int (Int32.ofNat len), .null] 6)) (T3.setTop (mkF m 27 #[.val (.ref a), .val (.ref b), .val (.int (Int32.ofNat o)), .val (.int (Int32.ofNat len)), .val .null, .unset] [])) := (c2.trans (st3 _ (Steps.refl _))).trans (by
    refine XS.iloadN X3.here hexec rfl (hb hbytes d4) rfl ?_
    refine XS.ifYes X3.here hexec rfl (pc0 := 5) rfl (hb hbytes d5) rfl (i0_ne_t (nz32 (by omega) l0)) (by decide) rfl ?_
    exact Steps.refl _)
  obtain ⟨T5, X5, q5, st5⟩ := X3.sget hexec hown (wk W (.fieldLink "java/lang/String" 38 "java/lang/String" "COMPACT_STRINGS" "Z")) s1 (fun _ _ h => by rw [hh3]; exact h) (g := (mkF m 27 #[.val (.ref a), .val (.ref b), .val (.int (Int32.ofNat o)), .val (.int (Int32.ofNat len)), .val .null, .unset] [])) rfl (hb hbytes d27)
  have hh5 := q5.trans hh3
  have c6 : Steps p.tables e below (s₁.setTop (entryFrame m #[.ref a, .ref b, .int (Int32.ofNat o), .int (Int32.ofNat len), .null] 6)) (T5.setTop (mkF m 30 #[.val (.ref a), .val (.ref b), .val (.int (Int32.ofNat o)), .val (.int (Int32.ofNat len)), .val .null, .unset] [.int z])) := c4.trans (st5 _ (Steps.refl _))
  have c7 : Steps p.tables e below (s₁.setTop (entryFrame m #[.ref a, .ref b, .int (Int32.ofNat o), .int (Int32.ofNat len), .null] 6)) (T5.setTop (mkF m 36 #[.val (.ref a), .val (.ref b), .val (.int (Int32.ofNat o)), .val (.int (Int32.ofNat len)), .val .null, .unset] [.int (Int32.ofNat len), .int (Int32.ofNat o), .ref b])) := c6.trans (by
    refine XS.ifNo X5.here hexec rfl (hb hbytes d30) rfl (i0_eq_f hz) ?_
    refine XS.aloadN X5.here hexec rfl (hb hbytes d33) rfl rfl ?_
    refine XS.iloadN X5.here hexec rfl (hb hbytes d34) rfl ?_
    refine XS.iloadN X5.here hexec rfl (hb hbytes d35) rfl ?_
    exact Steps.refl _)
  obtain ⟨v8, T8, X8, E8, g8⟩ := X5.callS hexec (Cmp3.law l b A o len) hown (wks W (staticW "java/lang/String" 177 Cmp3.yN)) (wk W Cmp3.tab) (W := 0) (Nat.le_of_ble_eq_true rfl) (Nat.le_of_ble_eq_true rfl) (Nat.le_refl _) (by show 0 + len ≤ len; omega) (g := (mkF m 36 #[.val (.ref a), .val (.ref b), .val (.int (Int32.ofNat o)), .val (.int (Int32.ofNat len)), .val .null, .unset] [.int (Int32.ofNat len), .int (Int32.ofNat o), .ref b])) rfl (by rw [hml]; rfl) c7 (argsL := [.ref b, .int (Int32.ofNat o), .int (Int32.ofNat len)]) (rest := []) rfl rfl (by show 2 * 0 + 0 ≤ _; decide) (hb hbytes d36) (⟨rfl, hA.mv X5.warmed.alike hh5, l1, l2, hp⟩)
  obtain ⟨e8, z8⟩ := E8
  obtain ⟨rfl, N, n1, n2, n3, n4, n5, n6⟩ := NewArr.mv _ T5 s _ _ hh5.symm (Vm.Alike.refl _) rfl e8
  rw [hh5] at z8
  have hB1 := hB.keep X8.warmed.alike (n6 _ _ hB.1)
  have hne : s.heap.size ≠ a := (Nat.ne_of_lt (Array.getElem?_eq_some_iff.mp hB.1).1).symm
  have c9 : Steps p.tables e below (s₁.setTop (entryFrame m #[.ref a, .ref b, .int (Int32.ofNat o), .int (Int32.ofNat len), .null] 6)) (T8.setTop (mkF m 39 #[.val (.ref a), .val (.ref b), .val (.int (Int32.ofNat o)), .val (.int (Int32.ofNat len)), .val .null, .unset] [.ref s.heap.size])) := g8
  have c10 : Steps p.tables e below (s₁.setTop (entryFrame m #[.ref a, .ref b, .int (Int32.ofNat o), .int (Int32.ofNat len), .null] 6)) (T8.setTop (mkF m 45 #[.val (.ref a), .val (.ref b), .val (.int (Int32.ofNat o)), .val (.int (Int32.ofNat len)), .val .null, .val (.ref s.heap.size)] [.int (Int32.ofNat N.slots.size), .ref s.heap.size, .ref a])) := by
    have hc : Steps p.tables e below (s₁.setTop (entryFrame m #[.ref a, .ref b, .int (Int32.ofNat o), .int (Int32.ofNat len), .null] 6)) (T8.setTop (mkF m 45 #[.val (.ref a), .val (.ref b), .val (.int (Int32.ofNat o)), .val (.int (Int32.ofNat len)), .val .null, .val (.ref s.heap.size)] [.int (Int32.ofNat len), .ref s.heap.size, .ref a])) := c9.trans (by
      refine XS.astore X8.here hexec rfl (hb hbytes d39) rfl rfl rfl ?_
      refine XS.aloadN X8.here hexec rfl (hb hbytes d41) rfl rfl ?_
      refine XS.aload X8.here hexec rfl (hb hbytes d42) rfl rfl ?_
      refine XS.iloadN X8.here hexec rfl (hb hbytes d44) rfl ?_
      exact Steps.refl _)
    rw [n4]; exact hc
  obtain ⟨v11, T11, X11, E11, g11⟩ := X8.callS hexec (CodL.law l s.heap.size N) hown (wks W (staticW "java/lang/String" 47 CodL.yN)) (wk W CodL.tab) (W := 1) (Nat.le_of_ble_eq_true rfl) (Nat.le_of_ble_eq_true rfl) (Nat.le_refl _) (by show 0 + len + 0 ≤ len; omega) (g := (mkF m 45 #[.val (.ref a), .val (.ref b), .val (.int (Int32.ofNat o)), .val (.int (Int32.ofNat len)), .val .null, .val (.ref s.heap.size)] [.int (Int32.ofNat N.slots.size), .ref s.heap.size, .ref a])) rfl (by rw [hml]; rfl) c10 (argsL := [.ref s.heap.size, .int (Int32.ofNat N.slots.size)]) (rest := [.ref a]) rfl rfl (by show 2 * 0 + (1 + 0) ≤ _; decide) (hb hbytes d45) (⟨rfl, n1⟩)
  obtain ⟨rfl, q11⟩ := E11
  have hB11 := hB1.mv (X8.warmed.alike.symm.trans X11.warmed.alike) q11
  have c12 : Steps p.tables e below (s₁.setTop (entryFrame m #[.ref a, .ref b, .int (Int32.ofNat o), .int (Int32.ofNat len), .null] 6)) (T11.setTop (mkF m 48 #[.val (.ref a), .val (.ref b), .val (.int (Int32.ofNat o)), .val (.int (Int32.ofNat len)), .val .null, .val (.ref s.heap.size)] [.int 0, .ref a])) := g11
  obtain ⟨T13, X13, p13, bl13, sl13, st13⟩ := X11.finit hexec hown (wk W (.fieldLink "java/lang/String" 15 "java/lang/String" "coder" "B")) (Or.inr ⟨_, (wk W (.laysFinal "java/lang/String" "java/lang/String" "coder" "B"))⟩) (Or.inl ⟨rfl, hnm⟩) f2 (Or.inl rfl) hB11 (t := .byte) (by decide +kernel) rfl (g := (mkF m 48 #[.val (.ref a), .val (.ref b), .val (.int (Int32.ofNat o)), .val (.int (Int32.ofNat len)), .val .null, .val (.ref s.heap.size)] [.int 0, .ref a])) rfl (rest := []) rfl (hb hbytes d48)
  have c14 : Steps p.tables e below (s₁.setTop (entryFrame m #[.ref a, .ref b, .int (Int32.ofNat o), .int (Int32.ofNat len), .null] 6)) (T13.setTop (mkF m 54 #[.val (.ref a), .val (.ref b), .val (.int (Int32.ofNat o)), .val (.int (Int32.ofNat len)), .val .null, .val (.ref s.heap.size)] [.ref s.heap.size, .ref a])) := (c12.trans (st13 _ (Steps.refl _))).trans (by
    refine XS.aloadN X13.here hexec rfl (hb hbytes d51) rfl rfl ?_
    refine XS.aload X13.here hexec rfl (hb hbytes d52) rfl rfl ?_
    exact Steps.refl _)
  obtain ⟨T15, X15, p15, bl15, sl15, st15⟩ := X13.finit hexec hown (wk W (.fieldLink "java/lang/String" 9 "java/lang/String" "value" "[B")) (Or.inr ⟨_, (wk W (.laysFinal "java/lang/String" "java/lang/String" "value" "[B"))⟩) (Or.inl ⟨rfl, hnm⟩) f1 (Or.inl rfl) bl13 (t := (.array .byte)) (by decide +kernel) rfl (g := (mkF m 54 #[.val (.ref a), .val (.ref b), .val (.int (Int32.ofNat o)), .val (.int (Int32.ofNat len)), .val .null, .val (.ref s.heap.size)] [.ref s.heap.size, .ref a])) rfl (rest := []) rfl (hb hbytes d54)
  have c16 : Steps p.tables e below (s₁.setTop (entryFrame m #[.ref a, .ref b, .int (Int32.ofNat o), .int (Int32.ofNat len), .null] 6)) (T15.setTop (mkF m 57 #[.val (.ref a), .val (.ref b), .val (.int (Int32.ofNat o)), .val (.int (Int32.ofNat len)), .val .null, .val (.ref s.heap.size)] [])) := c14.trans (st15 _ (Steps.refl _))
  have ap := apart (Or.inr ⟨_, (wk W (.laysFinal "java/lang/String" "java/lang/String" "value" "[B"))⟩) (Or.inr ⟨_, (wk W (.laysFinal "java/lang/String" "java/lang/String" "coder" "B"))⟩) f1 f2 (t₁ := .array .byte) (t₂ := .byte) (by decide +kernel) (by decide +kernel) (by decide)
  have al := X8.warmed.alike.symm.trans X15.warmed.alike
  have n7 : T11.heap[s.heap.size]? = some N := by rw [q11]; exact n1.1
  exact ⟨T15, none, _, _, _, X15, by simp, rfl, by omega, (fun _ => rfl), ⟨rfl, _, N, bl15, ((Same.refl D _).set _ (by simp)).set _ (by simp), sl15, (Cell.slots_setSlot_ne _ ap).trans sl13, n1.keep al (p15.other hne (p13.other hne n7)), n2, by rw [al.findClass]; exact n3, n4, n5, fun y c h1 h2 => p15.other h1 (p13.other h1 (by rw [q11]; exact n6 y c h2)), by rw [p15.2.2, p13.2.2, q11]; exact z8⟩, fun fs hl => c16.trans (X15.returnOut hexec hret (hb hbytes d57) hl)⟩
end New4
namespace New1
def yN : MethodName := ⟨"java/lang/String", "<init>", "([C)V"⟩
abbrev yB : ByteArray := jdk_42_method_3_code
theorem d0 : decode yB 0 = .ok (.aload_n 0, 1) := by decide +kernel
theorem d1 : decode yB 1 = .ok (.aload_n 1, 1) := by decide +kernel
theorem d2 : decode yB 2 = .ok (.iconst 0, 1) := by decide +kernel
theorem d3 : decode yB 3 = .ok (.aload_n 1, 1) := by decide +kernel
theorem d4 : decode yB 4 = .ok (.arraylength, 1) := by decide +kernel
theorem d5 : decode yB 5 = .ok (.aconst_null, 1) := by decide +kernel
theorem d6 : decode yB 6 = .ok (.invokespecial 27, 3) := by decide +kernel
theorem d9 : decode yB 9 = .ok (.return_, 1) := by decide +kernel
def site : List Cond := [New4.tab] ++ initW "java/lang/String" 27 New4.yN
def tab : Cond := tabOf yN yB 2 none site
def P (a : Addr) (D : Cell) (fV fC : Field) (b : Addr) (A : Cell) (z : Int32) (args : Array Value) (s : State) : Prop := args = #[.ref a, .ref b] ∧ Blank "java/lang/String" a D s ∧ Found "java/lang/String" "value" "[B" fV s ∧ Found "java/lang/String" "coder" "B" fC s ∧ Ch b A s ∧ StaticIs s "java/lang/String" "COMPACT_STRINGS" "Z" (.int z) ∧ ¬ z = 0 ∧ 0 < A.slots.size ∧ A.slots.size ≤ 536870912 ∧ ∀ i, i < A.slots.size → ¬ 255 < cv A i
def E (a : Addr) (D : Cell) (fV fC : Field) (A : Cell) (r : Option Value) (s u : State) : Prop := Got a D fV fC A 0 A.slots.size r s u
/-- new String(chars), not empty, no char above 255: a Latin-1 String of their low bytes -/
theorem law (l : Launch) (a : Addr) (D : Cell) (fV fC : Field) (b : Addr) (A : Cell) (z : Int32) : Law l yN 2 1 3 52 yB 2 none site (P a D fV fC b A z) (E a D fV fC A) [⟨a, fC.slot⟩, ⟨a, fV.slot⟩] 1 A.slots.size := by
  refine Law.of_walk (plainFor_of_name (by decide +kernel)) (by decide +kernel) (by decide +kernel) (by decide) (fun _ _ h => by rw [h.1]; rfl) (fun _ U U' hal hh h => ⟨h.1, h.2.1.mv hal hh, h.2.2.1.al hal, h.2.2.2.1.al hal, h.2.2.2.2.1.mv hal hh, h.2.2.2.2.2.1.there hal hh, h.2.2.2.2.2.2⟩) (fun r U U' V V' h1 hal h2 h => Got.mv r U U' V V' h1 hal h2 h) ?_
  intro p e s m args below meth c s₁ X0 hexec hbytes hml hret hlk hnm hown hh0 W hP
  obtain ⟨rfl, hB, f1, f2, hA, s1, hz, l0, l2, hp⟩ := hP
  have c1 : Steps p.tables e below (s₁.setTop (entryFrame m #[.ref a, .ref b] 2)) (s₁.setTop (mkF m 0 #[.val (.ref a), .val (.ref b)] [])) := entry rfl
  have c2 : Steps p.tables e below (s₁.setTop (entryFrame m #[.ref a, .ref b] 2)) (s₁.setTop (mkF m 6 #[.val (.ref a), .val (.ref b)] [.null, .int (Int32.ofNat A.slots.size), .int 0, .ref b, .ref a])) := c1.trans (by
    refine XS.aloadN X0.here hexec rfl (hb hbytes d0) rfl rfl ?_
    refine XS.aloadN X0.here hexec rfl (hb hbytes d1) rfl rfl ?_
    refine iconstV X0.here hexec rfl 0 (hb hbytes d2) (by decide) ?_
    refine XS.aloadN X0.here hexec rfl (hb hbytes d3) rfl rfl ?_
    refine X0.alen hexec (hA.1.mv X0.warmed.alike hh0) rfl rfl (hb hbytes d4) ?_
    refine XS.aconstNull X0.here hexec rfl (hb hbytes d5) ?_
    exact Steps.refl _)
  obtain ⟨v3, T3, X3, E3, g3⟩ := X0.callN hexec (New4.law l a D fV fC b A z 0 A.slots.size) rfl hown (wks W (initW "java/lang/String" 27 New4.yN)) (W New4.tab (by simp only [site, List.mem_cons, List.mem_append, true_or, or_true])) (W := 0) (Nat.le_of_ble_eq_true rfl) (Nat.le_of_ble_eq_true rfl) (Nat.le_refl _) (by show 0 + A.slots.size ≤ A.slots.size; omega) (g := (mkF m 6 #[.val (.ref a), .val (.ref b)] [.null, .int (Int32.ofNat A.slots.size), .int (Int32.ofNat 0), .ref b, .ref a])) rfl (by rw [hml]; rfl) c2 (argsL := [.ref b, .int (Int32.ofNat 0), .int (Int32.ofNat A.slots.size), .null]) (rest := []) rfl rfl (by show 2 * 0 + 0 ≤ _; decide) (hb hbytes d6) (⟨rfl, hB.mv X0.warmed.alike hh0, f1.al X0.warmed.alike, f2.al X0.warmed.alike, hA.mv X0.warmed.alike hh0, s1.there X0.warmed.alike hh0, hz, l0, by omega, l2, fun i hi => by rw [Nat.zero_add]; exact hp i hi⟩)
  have e0 := Got.mv _ s₁ s _ _ hh0.symm (Vm.Alike.refl _) rfl E3
  obtain rfl := e0.1
  have c4 : Steps p.tables e below (s₁.setTop (entryFrame m #[.ref a, .ref b] 2)) (T3.setTop (mkF m 9 #[.val (.ref a), .val (.ref b)] [])) := g3
  exact ⟨T3, none, _, _, _, X3, by simp, rfl, by omega, (fun _ => rfl), e0, fun fs hl => c4.trans (X3.returnOut hexec hret (hb hbytes d9) hl)⟩
theorem pays {l : Launch} {R : Room} {p : Program} {e : Env} {below : List Frame} {s : State} {sargs : Array Value} {len W : Nat} (a : Addr) (D : Cell) (fV fC : Field) (b : Addr) (A : Cell) (z : Int32) (htab : tab.before sargs s = true) (hfr : 4 ≤ R.frames) (hlo : W + 65 ≤ R.locals) :
    Back l R p e below s sargs yN len W (fun A₁ a₁ => A₁.cells + 1 ≤ R.cells ∧ A₁.slots + A.slots.size ≤ R.slots ∧ P a D fV fC b A z a₁ A₁.U) (fun A₁ _ v₁ B₁ => E a D fV fC A v₁ A₁.U B₁.U ∧ B₁.locs = A₁.locs ++ [⟨a, fC.slot⟩, ⟨a, fV.slot⟩] ∧ B₁.cells = A₁.cells + 1 ∧ B₁.slots = A₁.slots + A.slots.size) :=
  (law l a D fV fC b A z).pays htab hfr (by omega)
end New1
/-- the byte, read back as charAt reads it, is the char -/
theorem lo8_mask {x : Int32} (h0 : ¬ x < 0) (h1 : ¬ 255 < x) : lo8 x &&& 255 = x := by
  have t : ∀ k : Fin 256, lo8 (Int32.ofNat k.val) &&& 255 = Int32.ofNat k.val := by decide +kernel
  rw [Int32.lt_iff_toInt_lt] at h0 h1
  have e0 : (0 : Int32).toInt = 0 := rfl
  have e1 : (255 : Int32).toInt = 255 := rfl
  obtain ⟨k, hk⟩ : ∃ k : Nat, x.toInt = k := ⟨x.toInt.toNat, by omega⟩
  have hx : x = Int32.ofNat k := Int32.toInt_inj.mp (by rw [hk, Int32.toInt_ofNat_small (by omega)])
  rw [hx]
  exact t ⟨k, by omega⟩
end StrChars
namespace StrChars.Road
open Jvm Sem ClassFile Op Lib Jvm.Stand Jvm.Free Jvm.Free.XT
open Jvm.Lib.Cold (StaticIs)
abbrev ST : String := "java/lang/String"
/-- every table word that New1's law asks, flat -/
abbrev words : List Jvm.Cond := [.code New1.yN New1.yB 2 none, .initialized ST, .methodLink ST 27 New4.yN, .instanceMethod New4.yN,
  .code New4.yN New4.yB 6 none, .fieldLink ST 38 ST "COMPACT_STRINGS" "Z", .laysFinal ST ST "value" "[B", .fieldLink ST 9 ST "value" "[B", .laysFinal ST ST "coder" "B", .fieldLink ST 15 ST "coder" "B",
  .methodLink ST 1 Lib.objectInit, .instanceMethod Lib.objectInit, .code Lib.objectInit ⟨#[0xb1]⟩ 1 none, .methodLink ST 177 Cmp3.yN, .static Cmp3.yN, .methodLink ST 47 CodL.yN, .static CodL.yN,
  .code Cmp3.yN Cmp3.yB 6 (some (.array .byte)), .initialized U16, .arrayClass .byte, .methodLink U16 115 Cmp5.yN, .static Cmp5.yN, .code Cmp5.yN Cmp5.yB 7 (some .int), .code CodL.yN CodL.yB 2 (some .byte)]
theorem tab_of {a : Array Value} {s : State} (h : ∀ w ∈ words, w.before a s = true) : New1.tab.before a s = true := by
  have h5 : Cmp5.tab.before a s = true := unparts (wk h (.code Cmp5.yN Cmp5.yB 7 (some .int))) (wks h (.initialized Cmp5.yN.cls :: Cmp5.site))
  have hc : CodL.tab.before a s = true := unparts (wk h (.code CodL.yN CodL.yB 2 (some .byte))) (wks h (.initialized CodL.yN.cls :: CodL.site))
  have q5 : ∀ w ∈ Cmp5.tab :: words, w.before a s = true := fun w hw => (List.mem_cons.mp hw).elim (fun e => e ▸ h5) (h w)
  have h3 : Cmp3.tab.before a s = true := unparts (wk q5 (.code Cmp3.yN Cmp3.yB 6 (some (.array .byte)))) (wks q5 (.initialized Cmp3.yN.cls :: Cmp3.site))
  have q3 : ∀ w ∈ Cmp3.tab :: CodL.tab :: words, w.before a s = true := fun w hw => (List.mem_cons.mp hw).elim (fun e => e ▸ h3) fun hw => (List.mem_cons.mp hw).elim (fun e => e ▸ hc) (h w)
  have h4 : New4.tab.before a s = true := unparts (wk q3 (.code New4.yN New4.yB 6 none)) (wks q3 (.initialized New4.yN.cls :: New4.site))
  have q4 : ∀ w ∈ New4.tab :: words, w.before a s = true := fun w hw => (List.mem_cons.mp hw).elim (fun e => e ▸ h4) (h w)
  exact unparts (wk q4 (.code New1.yN New1.yB 2 none)) (wks q4 (.initialized New1.yN.cls :: New1.site))
/-- the words ride from the start Z to the walk's own state -/
theorem moved {Z s : State} {a0 args : Array Value} (hZ : Z.Warmed39 s.vm) (hw : ∀ d ∈ words, d.before a0 Z = true) : ∀ d ∈ words, d.before args s = true := fun d hd => by
  have q := hw d hd
  have t : ∀ d ∈ words, d = .arrayClass .byte ∨ (d.onTables && d.keepsFace) = true := by decide +kernel
  rcases t d hd with rfl | t
  · exact RoadKit.mvA hZ q
  · exact RoadKit.mv hZ q t
/-- WHAT COMES BACK, over the tables of the start Z: h the heap at the call, h' behind it -/
def Q (Z : State) (x : Addr) (A : Cell) (h : Heap) (v : Option Value) (h' : Heap) (L : List Loc) : Prop := v = none ∧ (∀ y ∈ L, y.base = x) ∧ RoadKit.Keep h h' [x] ∧ h'.size = h.size + 1 ∧ RoadKit.Exa Z h' x ST ∧ RoadKit.Fld Z h' x ST "value" "[B" (.ref h.size) ∧ RoadKit.Fld Z h' x ST "coder" "B" (.int 0) ∧
  (∃ V : Cell, RoadKit.Arr Z h' h.size V .byte ∧ V.vm = .none ∧ Z.vm.findClass "[B" = some V.cls ∧ V.slots.size = A.slots.size ∧ ∀ j, j < A.slots.size → V.slots[j]? = some (.int (lo8 (cv A j)))) ∧
  ∀ (O n d : String) (w : Value), RoadKit.Fld Z h x O n d w → RoadKit.slotOf Z O n d ≠ RoadKit.slotOf Z ST "value" "[B" → RoadKit.slotOf Z O n d ≠ RoadKit.slotOf Z ST "coder" "B" → RoadKit.Fld Z h' x O n d w
/-- **new String(chars) AT A CALL, IN THE ROAD'S FORM**: for specialBack behind newO: x the fresh String, b the char[] with the cell A -/
theorem back {p : Program} {l : Launch} {e : Env} {R : Room} {s : State} {args : Array Value} {below : List Frame} {len W : Nat} {Z : State} {a0 : Array Value} {h : Heap} (hZ : Z.Warmed39 s.vm) (hw : ∀ d ∈ words, d.before a0 Z = true) {kI : Nat} (wi : (Jvm.Cond.instantiable ST kI).before a0 Z = true)
    {x b : Addr} {A : Cell} {z : Int32} {v0 c0 : Value} (E : RoadKit.Exa Z h x ST) (V : RoadKit.Fld Z h x ST "value" "[B" v0) (C : RoadKit.Fld Z h x ST "coder" "B" c0) (K : RoadKit.Arr Z h b A .char) (hty : Typed .char A) (S : RoadKit.Sta Z h ST "COMPACT_STRINGS" "Z" (.int z)) (hz : ¬ z = 0)
    (l0 : 0 < A.slots.size) (l2 : A.slots.size ≤ 536870912) (hp : ∀ i, i < A.slots.size → ¬ 255 < cv A i) (hfr : 4 ≤ R.frames) (hlo : W + 65 ≤ R.locals) :
    Back l R p e below s args New1.yN len W (fun P a => a = #[.ref x, .ref b] ∧ P.U.heap = h ∧ P.cells + 1 ≤ R.cells ∧ P.slots + A.slots.size ≤ R.slots)
      (fun P _ v B => ∃ L, Q Z x A h v B.U.heap L ∧ B.locs = P.locs ++ L ∧ B.cells = P.cells + 1 ∧ B.slots = P.slots + A.slots.size) := by
  intro m meth c P g ig mk a X hg hsize hdg hW hn hp'
  obtain ⟨rfl, rfl, r1, r2⟩ := hp'
  have al : Z.vm.Alike P.U.vm := hZ.alike.trans X.warmed.alike
  obtain ⟨D, cfV, kV, iV, fV, hD, gV, stV, knV, obV, asV, slV⟩ := id V
  obtain ⟨D', cfC, kC, iC, fC, hD', gC, stC, -, -, asC, slC⟩ := id C
  cases hD.symm.trans hD'
  obtain ⟨D2, kD, e1, e2, e3, e4, e5⟩ := id E
  cases hD.symm.trans e1
  obtain ⟨c2, k2, i1, i2, i3, -⟩ := Cond.instantiable_spec wi
  cases e2.symm.trans i1
  cases e3.symm.trans i2
  obtain ⟨kU, u1, u2⟩ := al.2.2 _ _ e3
  have hB : Blank ST x D P.U := ⟨hD, ⟨knV, fun q hq => by rw [hq] at obV; cases obV⟩, by rw [al.findClass]; exact e2, kU, u1, by rw [u2]; exact i3, by rw [u2]; exact e5 i3⟩
  have F1 : Found ST "value" "[B" fV P.U := ⟨SBG.found_only al ⟨cfV, kV, iV, gV⟩, stV⟩
  have F2 : Found ST "coder" "B" fC P.U := ⟨SBG.found_only al ⟨cfC, kC, iC, gC⟩, stC⟩
  have hA : Ch b A P.U := ⟨⟨K.1, State.isArrayOf_alike al K.2.1, K.2.2, by omega⟩, hty⟩
  have hS : StaticIs P.U ST "COMPACT_STRINGS" "Z" (.int z) := by
    obtain ⟨cfS, iS, kS, fS, st, cS, t1, t2, t3, t4, t5, t6, t7⟩ := S
    exact StaticIs.there (s := { Z with heap := P.U.heap }) ⟨cfS, iS, kS, fS, st, cS, t1, t2, t3, t4, t5, (fun q => by rw [q] at t6; cases t6), t7⟩ al rfl
  obtain ⟨v, B, X', ⟨⟨hv, E', V', q1, q2, q3, q4, q5, q6, q7, q8, q9, q10, q11⟩, hl, hc, hs⟩, st⟩ := New1.pays x D fV fC b A z (tab_of (moved hZ hw)) hfr hlo m meth c P g ig mk _ X hg hsize hdg hW hn ⟨r1, r2, rfl, hB, F1, F2, hA, hS, hz, l0, l2, hp⟩
  have al' : Z.vm.Alike B.U.vm := hZ.alike.trans X'.warmed.alike
  have hsz : E'.slots.size = D.slots.size := by
    obtain ⟨-, -, -, kB, w1, w2, w3⟩ := q1
    obtain ⟨kB', y1, y2⟩ := al'.2.2 _ _ e3
    rw [q2.2.1] at w1
    cases w1.symm.trans y1
    rw [w3, e5 i3, y2]
  refine ⟨v, B, X', ⟨_, ⟨hv, ?_, ⟨by omega, fun y cy hy hn' => q10 y cy (by simpa using hn') hy, fun y cy hy => ?_⟩, q11, ⟨E', _, q1.1, by rw [q2.2.1]; exact e2, by rw [q2.2.1]; exact e3, by rw [q2.1]; exact obV, fun _ => by rw [hsz]; exact e5 i3⟩,
    ⟨E', cfV, kV, iV, fV, q1.1, gV, stV, by rw [q2.1]; exact knV, by rw [q2.1]; exact obV, by rw [q2.2.1]; exact asV, q3⟩, ⟨E', cfC, kC, iC, fC, q1.1, gC, stC, by rw [q2.1]; exact knV, by rw [q2.1]; exact obV, by rw [q2.2.1]; exact asC, q4⟩,
    ⟨V', ⟨q5.1, State.isArrayOf_alike al'.symm q5.2.1, q5.2.2.1⟩, q6, by rw [← al'.findClass]; exact q7, q8, fun j hj => by have := q9 j hj; rwa [Nat.zero_add] at this⟩, fun O n d w F n1 n2 => ?_⟩, hl, hc, hs⟩, st⟩
  · intro y hy
    simp only [List.mem_cons, List.not_mem_nil, or_false] at hy
    rcases hy with rfl | rfl <;> rfl
  · by_cases q : y = x
    · subst q
      cases hD.symm.trans hy
      exact ⟨E', q1.1, q2.2.1, q2.1, hsz⟩
    · exact ⟨cy, q10 y cy q hy, rfl, rfl, rfl⟩
  · obtain ⟨D3, cf, k, i, f, g1, g2, g3, g4, g5, g6, g7⟩ := F
    cases hD.symm.trans g1
    simp only [RoadKit.slotOf, g2, gV, gC, Option.map_some, Option.getD_some] at n1 n2
    exact ⟨E', cf, k, i, f, q1.1, g2, g3, by rw [q2.1]; exact g4, by rw [q2.1]; exact g5, by rw [q2.2.1]; exact g6, by rw [q2.2.2 f.slot (by simp [n1, n2])]; exact g7⟩
end StrChars.Road
namespace StrChars.Road
open Jvm Sem ClassFile Op Lib Jvm.Stand Jvm.Free Jvm.Free.XT
/-- WHAT COMES BACK, the byte[] as a list of values -/
def QA (Z : State) (x : Addr) (zn : Int32) (cs : List Int32) (h : Heap) (v : Option Value) (h' : Heap) (L : List Loc) : Prop := v = none ∧ (∀ y ∈ L, y.base = x) ∧ RoadKit.Keep h h' [x] ∧ h'.size = h.size + 1 ∧ RoadKit.Exa Z h' x ST ∧ RoadKit.Fld Z h' x ST "value" "[B" (.ref h.size) ∧ RoadKit.Fld Z h' x ST "coder" "B" (.int 0) ∧
  (∃ kb, Z.vm.findClass "[B" = some kb ∧ RoadKit.Arv Z h' h.size kb .byte zn (cs.map fun c => .int (lo8 c)) (.int 0)) ∧
  ∀ (O n d : String) (w : Value), RoadKit.Fld Z h x O n d w → RoadKit.slotOf Z O n d ≠ RoadKit.slotOf Z ST "value" "[B" → RoadKit.slotOf Z O n d ≠ RoadKit.slotOf Z ST "coder" "B" → RoadKit.Fld Z h' x O n d w
/-- **new String(chars) AT A CALL, THE ARRAYS AS LISTS**: the char[] at b holds cs, not empty, no char above 255 -/
theorem backArv {p : Program} {l : Launch} {e : Env} {R : Room} {s : State} {args : Array Value} {below : List Frame} {len W : Nat} {Z : State} {a0 : Array Value} {h : Heap} (hZ : Z.Warmed39 s.vm) (hw : ∀ d ∈ words, d.before a0 Z = true) {kI : Nat} (wi : (Jvm.Cond.instantiable ST kI).before a0 Z = true)
    {x b : Addr} {k : ClassId} {zn z : Int32} {cs : List Int32} {dv v0 c0 : Value} (E : RoadKit.Exa Z h x ST) (V : RoadKit.Fld Z h x ST "value" "[B" v0) (C : RoadKit.Fld Z h x ST "coder" "B" c0) (K : RoadKit.Arv Z h b k .char zn (cs.map Value.int) dv) (S : RoadKit.Sta Z h ST "COMPACT_STRINGS" "Z" (.int z)) (hz : ¬ z = 0)
    (hlen : zn.toNatClampNeg = cs.length) (h0 : 0 < cs.length) (hbig : cs.length ≤ 536870912) (hall : ∀ c ∈ cs, ¬ 255 < c) (hfr : 4 ≤ R.frames) (hlo : W + 65 ≤ R.locals) :
    Back l R p e below s args New1.yN len W (fun P a => a = #[.ref x, .ref b] ∧ P.U.heap = h ∧ P.cells + 1 ≤ R.cells ∧ P.slots + cs.length ≤ R.slots)
      (fun P _ v B => ∃ L, QA Z x zn cs h v B.U.heap L ∧ B.locs = P.locs ++ L ∧ B.cells = P.cells + 1 ∧ B.slots = P.slots + cs.length) := by
  obtain ⟨A, K1, K2, K3, K4, K5, K6⟩ := K
  have e : A.slots.size = cs.length := K3.trans hlen
  have hat : ∀ (i : Nat) (hi : i < cs.length), A.slots[i]? = some (.int cs[i]) := fun i hi => by rw [K5 i (by omega)]; simp [List.getD_eq_getElem?_getD, hi]
  have hcv : ∀ (i : Nat) (hi : i < cs.length), cv A i = cs[i] := fun i hi => by unfold cv; rw [hat i hi]
  have hty : Typed .char A := fun i v hv => by
    have hi : i < A.slots.size := (Array.getElem?_eq_some_iff.mp hv).1
    have q := K5 i hi
    rw [hv] at q
    rw [Option.some.inj q]
    exact K6 i hi
  refine Back.mono (back hZ hw wi E V C K1 hty S hz (by omega) (by omega) (fun i hi => by rw [hcv i (by omega)]; exact hall _ (List.getElem_mem _)) hfr hlo) (fun P a hp => ⟨hp.1, hp.2.1, hp.2.2.1, by rw [e]; exact hp.2.2.2⟩) (fun P a v B hp hq => ?_)
  obtain ⟨L, ⟨q1, q2, q3, q4, q5, q6, q7, ⟨V', v1, v2, v3, v4, v5⟩, q9⟩, hl, hc, hs⟩ := hq
  refine ⟨L, ⟨q1, q2, q3, q4, q5, q6, q7, ⟨V'.cls, v3, V', v1, rfl, by rw [v4, e, hlen], K4, fun i hi => ?_, fun i hi => ?_⟩, q9⟩, hl, hc, by rw [hs, e]⟩
  · have hi' : i < cs.length := by omega
    rw [v5 i (by omega), hcv i hi']; simp [List.getD_eq_getElem?_getD, hi']
  · have hi' : i < cs.length := by omega
    simp only [List.getD_eq_getElem?_getD, List.getElem?_map, List.getElem?_eq_getElem hi', Option.map_some, Option.getD_some]
    exact fits_lo8 _
end StrChars.Road
namespace StrChars.Road
open Jvm Sem ClassFile Op Lib Jvm.Stand Jvm.Free Jvm.Free.XT
/-- WHAT COMES BACK, in the writer's own shape -/
def QV (Z : State) (x : Addr) (N : Int32) (bs : List Int32) (h : Heap) (n0 : Nat) (v : Option Value) (h' : Heap) (L : List Loc) : Prop := v = none ∧ RoadKit.Fr n0 L ∧ RoadKit.Keep h h' [x] ∧ RoadKit.Exa Z h' x ST ∧ RoadKit.Fld Z h' x ST "coder" "B" (.int 0) ∧
  ∃ (t : Addr) (kb : ClassId), n0 ≤ t ∧ h.size ≤ t ∧ ¬ t = x ∧ RoadKit.Fld Z h' x ST "value" "[B" (.ref t) ∧ RoadKit.Arv Z h' t kb .byte N (bs.map Value.int) (.int 0)
/-- **new String(chars) AT A CALL, FOR THE WRITER**: a char[] of n known ints, each 0 to 255 -/
theorem backV {p : Program} {l : Launch} {e : Env} {R : Room} {s : State} {args : Array Value} {below : List Frame} {len W : Nat} {Z : State} {a0 : Array Value} {h : Heap} (hZ : Z.Warmed39 s.vm) (hw : ∀ d ∈ words, d.before a0 Z = true) {kI : Nat} (wi : (Jvm.Cond.instantiable ST kI).before a0 Z = true)
    {x b : Addr} {kC : ClassId} {cs bs : List Int32} {d v0 c0 : Value} {z N : Int32} {n n0 : Nat} (hx0 : n0 ≤ x) (hh0 : n0 ≤ h.size) (E : RoadKit.Exa Z h x ST) (V : RoadKit.Fld Z h x ST "value" "[B" v0) (C : RoadKit.Fld Z h x ST "coder" "B" c0) (K : RoadKit.Arv Z h b kC .char N (cs.map Value.int) d) (S : RoadKit.Sta Z h ST "COMPACT_STRINGS" "Z" (.int z)) (hz : ¬ z = 0)
    (hn : cs.length = n) (hN : N = Int32.ofNat n) (l0 : 0 < n) (l2 : n ≤ 4000) (hp : ∀ c ∈ cs, ¬ c < 0 ∧ ¬ (255 : Int32) < c) (hb : bs = cs.map (fun c => c.toInt8.toInt32)) (hfr : 4 ≤ R.frames) (hlo : W + 65 ≤ R.locals) :
    Back l R p e below s args (⟨"java/lang/String", "<init>", "([C)V"⟩ : MethodName) len W (fun P a => a = #[.ref x, .ref b] ∧ P.U.heap = h ∧ P.cells + 1 ≤ R.cells ∧ P.slots + n ≤ R.slots)
      (fun P _ v B => ∃ L, QV Z x N bs h n0 v B.U.heap L ∧ B.locs = P.locs ++ L ∧ B.cells = P.cells + 1 ∧ B.slots = P.slots + n) := by
  subst hn hN hb
  refine Back.mono (backArv hZ hw wi E V C K S hz (n32 (by omega)) l0 (by omega) (fun c hc => (hp c hc).2) hfr hlo) (fun P a hp => hp) (fun P a v B hp hq => ?_)
  obtain ⟨L, ⟨q1, q2, q3, q4, q5, q6, q7, ⟨kb, v1, v2⟩, q9⟩, hl, hc, hs⟩ := hq
  exact ⟨L, ⟨q1, fun y hy => by rw [q2 y hy]; exact hx0, q3, q5, q7, h.size, kb, hh0, Nat.le_refl _, Nat.ne_of_gt E.lt, q6, by rw [List.map_map]; exact v2⟩, hl, hc, hs⟩
end StrChars.Road
namespace StrChars
open Jvm Sem ClassFile Op Lib Jvm.Stand Jvm.Free.XT Jvm.Free.ALB Jvm.Free.JM Jvm.Free
open Jvm.Lib.Cold (StaticIs)
def hi8 (x : Int32) : Int32 := lo8 (x >>> ((8 : Int32) &&& 31))
/-- what StringUTF16.getChar makes of two bytes -/
def pairCh (u v : Int32) : Int32 := (((u &&& 255) <<< ((0 : Int32) &&& 31)) ||| ((v &&& 255) <<< ((8 : Int32) &&& 31))).toUInt32.toUInt16.toUInt32.toInt32
theorem lo8_and (x : Int32) : (lo8 x &&& 255).toBitVec.toNat = x.toBitVec.toNat % 256 := by
  have h : (lo8 x).toBitVec = (x.toBitVec.signExtend 8).signExtend 32 := by rw [lo8, Int8.toBitVec_toInt32, Int32.toBitVec_toInt8]
  rw [Int32.toBitVec_and, BitVec.toNat_and, h]
  have e : ((x.toBitVec.signExtend 8).signExtend 32).toNat % 256 = x.toBitVec.toNat % 256 := by
    rw [BitVec.toNat_signExtend]
    have hlt := x.toBitVec.isLt
    simp only [BitVec.toNat_setWidth, BitVec.toNat_signExtend]
    split <;> split <;> omega
  rw [← e]
  exact Nat.and_two_pow_sub_one_eq_mod _ 8
theorem pair_says {c : Int32} (h0 : ¬ c < 0) (h1 : ¬ 65535 < c) : pairCh (lo8 c) (hi8 c) = c := by
  rw [Int32.lt_iff_toInt_lt] at h0 h1
  have e0 : (0 : Int32).toInt = 0 := rfl
  have e1 : (65535 : Int32).toInt = 65535 := rfl
  have hc : c.toInt = c.toBitVec.toNat := by
    have := c.toBitVec.isLt
    have e : c.toInt = c.toBitVec.toInt := rfl
    rw [e] at h0 h1
    rw [e]
    rw [BitVec.toInt_eq_toNat_cond] at h0 h1 ⊢
    split at h0 <;> split <;> omega
  have hn : c.toBitVec.toNat < 65536 := by omega
  have a1 := lo8_and c
  have a2 : (hi8 c &&& 255).toBitVec.toNat = c.toBitVec.toNat / 256 := by
    rw [hi8, lo8_and]
    have e : ((8 : Int32) &&& 31) = 8 := by decide
    rw [e, Int32.toBitVec_shiftRight]
    have e2 : ((8 : Int32).toBitVec.smod 32) = 8#32 := by decide
    rw [e2, BitVec.sshiftRight_eq', BitVec.toNat_sshiftRight_of_msb_false (by rw [BitVec.msb_eq_false_iff_two_mul_lt]; omega)]
    show c.toBitVec.toNat >>> 8 % 256 = _
    rw [Nat.shiftRight_eq_div_pow]
    omega
  unfold pairCh
  apply Int32.toBitVec_inj.mp
  apply BitVec.eq_of_toNat_eq
  have f0 : ((0 : Int32) &&& 31) = 0 := by decide
  have f8 : ((8 : Int32) &&& 31) = 8 := by decide
  rw [f0, f8]
  have g : (((lo8 c &&& 255) <<< (0 : Int32)) ||| ((hi8 c &&& 255) <<< (8 : Int32))).toBitVec.toNat = c.toBitVec.toNat := by
    rw [Int32.toBitVec_or, Int32.toBitVec_shiftLeft, Int32.toBitVec_shiftLeft]
    have s0 : ((0 : Int32).toBitVec.smod 32) = 0#32 := by decide
    have s8 : ((8 : Int32).toBitVec.smod 32) = 8#32 := by decide
    rw [s0, s8, BitVec.toNat_or]
    simp only [BitVec.shiftLeft_eq', BitVec.toNat_shiftLeft, a1, a2]
    show (c.toBitVec.toNat % 256) <<< 0 % 2 ^ 32 ||| (c.toBitVec.toNat / 256) <<< 8 % 2 ^ 32 = _
    rw [Nat.shiftLeft_zero, Nat.mod_eq_of_lt (show c.toBitVec.toNat % 256 < 2 ^ 32 by omega), Nat.mod_eq_of_lt (show (c.toBitVec.toNat / 256) <<< 8 < 2 ^ 32 by rw [Nat.shiftLeft_eq]; omega), Nat.or_comm, ← Nat.shiftLeft_add_eq_or_of_lt (by omega), Nat.shiftLeft_eq]
    omega
  show BitVec.toNat (((((lo8 c &&& 255) <<< (0 : Int32)) ||| ((hi8 c &&& 255) <<< (8 : Int32))).toBitVec.setWidth 16).setWidth 32) = _
  rw [BitVec.toNat_setWidth, BitVec.toNat_setWidth, g]
  omega
end StrChars
namespace StrChars
open Jvm Sem ClassFile Op Lib Jvm.Stand Jvm.Free.XT Jvm.Free.ALB Jvm.Free.JM Jvm.Free
open Jvm.Lib.Cold (StaticIs)
/-- the array's cell V codes the n chars f 0 .. f (n - 1) by the coder cd, as the JDK does: coder 1 just where some char is above 255 -/
def Cod (cd : Int32) (n : Nat) (f : Nat → Int32) (V : Cell) : Prop := (cd = 0 ∧ V.slots.size = n ∧ ∀ j, j < n → V.slots[j]? = some (.int (lo8 (f j))) ∧ ¬ 255 < f j) ∨ (cd = 1 ∧ V.slots.size = 2 * n ∧ (∀ j, j < n → V.slots[2 * j]? = some (.int (lo8 (f j))) ∧ V.slots[2 * j + 1]? = some (.int (hi8 (f j)))) ∧ ∃ j, j < n ∧ 255 < f j)
/-- **x is a String of the n chars f 0 .. f (n - 1)**, Latin-1 or UTF-16; its array at t has the cell V -/
def Txt (x t : Addr) (V : Cell) (cd : Int32) (n : Nat) (f : Nat → Int32) (U : State) : Prop := Exact "java/lang/String" x U ∧ Has x "java/lang/String" "value" "[B" (.ref t) U ∧ Has x "java/lang/String" "coder" "B" (.int cd) U ∧ XT.Arr .byte t V U ∧ Cod cd n f V ∧ ∀ j, j < n → ¬ f j < 0 ∧ ¬ 65535 < f j
theorem Txt.mv {x t : Addr} {V : Cell} {cd : Int32} {n : Nat} {f : Nat → Int32} {U U' : State} (h : Txt x t V cd n f U) (hal : U.vm.Alike U'.vm) (hh : U'.heap = U.heap) : Txt x t V cd n f U' := ⟨h.1.mv hal hh, h.2.1.mv hal hh, h.2.2.1.mv hal hh, h.2.2.2.1.mv hal hh, h.2.2.2.2⟩
end StrChars
namespace StrChars.Road
open Jvm Sem ClassFile Op Lib Jvm.Stand Jvm.Free Jvm.Free.XT
open Jvm.Lib.Cold (StaticIs)
theorem consq {a : Array Value} {s : State} {c : Jvm.Cond} {L : List Jvm.Cond} (h0 : c.before a s = true) (h : ∀ w ∈ L, w.before a s = true) : ∀ w ∈ c :: L, w.before a s = true := fun w hw => (List.mem_cons.mp hw).elim (fun e => e ▸ h0) (h w)
/-- the bytes of the chars cs, low before high -/
def wideBytes : List Int32 → List Value
  | [] => []
  | c :: cs => .int (lo8 c) :: .int (hi8 c) :: wideBytes cs
theorem wide_lo (d : Value) : ∀ (cs : List Int32) (j : Nat), j < cs.length → (wideBytes cs).getD (2 * j) d = .int (lo8 (cs.getD j 0))
  | [], j, h => absurd h (Nat.not_lt_zero j)
  | c :: cs, 0, _ => rfl
  | c :: cs, j + 1, h => by
    have q := wide_lo d cs j (by simpa using h)
    rw [show 2 * (j + 1) = 2 * j + 1 + 1 from by omega]
    simpa [wideBytes] using q
theorem wide_hi (d : Value) : ∀ (cs : List Int32) (j : Nat), j < cs.length → (wideBytes cs).getD (2 * j + 1) d = .int (hi8 (cs.getD j 0))
  | [], j, h => absurd h (Nat.not_lt_zero j)
  | c :: cs, 0, _ => rfl
  | c :: cs, j + 1, h => by
    have q := wide_hi d cs j (by simpa using h)
    rw [show 2 * (j + 1) + 1 = 2 * j + 1 + 1 + 1 from by omega]
    simpa [wideBytes] using q
theorem low_at (d : Value) (cs : List Int32) (j : Nat) (h : j < cs.length) : (cs.map fun c => Value.int (lo8 c)).getD j d = .int (lo8 (cs.getD j 0)) := by
  simp [List.getD_eq_getElem?_getD, h]
/-- an array of N2 bytes vs codes the chars cs by the coder cd -/
def CodA (cs : List Int32) (cd N2 : Int32) (vs : List Value) : Prop := (cd = 0 ∧ N2 = Int32.ofNat cs.length ∧ vs = (cs.map fun c => Value.int (lo8 c)) ∧ ∀ c ∈ cs, ¬ 255 < c) ∨ (cd = 1 ∧ N2 = Int32.ofNat (2 * cs.length) ∧ vs = wideBytes cs ∧ ∃ c ∈ cs, 255 < c)
theorem CodA.cod {cs : List Int32} {cd N2 : Int32} {vs : List Value} {V : Cell} (h : CodA cs cd N2 vs) (hn : 2 * cs.length < 2 ^ 31) (hs : V.slots.size = N2.toNatClampNeg) (hv : RoadKit.Has V vs (.int 0)) : Cod cd cs.length (fun j => cs.getD j 0) V := by
  rcases h with ⟨rfl, rfl, rfl, h⟩ | ⟨rfl, rfl, rfl, c, hc, hw⟩
  · rw [n32 (by omega)] at hs
    exact Or.inl ⟨rfl, hs, fun j hj => ⟨by rw [hv j (by omega), low_at _ _ _ hj], by
      have e : cs.getD j 0 = cs[j] := by simp [List.getD_eq_getElem?_getD, hj]
      show ¬ 255 < cs.getD j 0
      rw [e]; exact h _ (List.getElem_mem _)⟩⟩
  · rw [n32 (by omega)] at hs
    obtain ⟨j, hj, rfl⟩ := List.getElem_of_mem hc
    exact Or.inr ⟨rfl, hs, fun j hj => ⟨by rw [hv _ (by omega), wide_lo _ _ _ hj], by rw [hv _ (by omega), wide_hi _ _ _ hj]⟩, j, hj, by
      have e : cs.getD j 0 = cs[j] := by simp [List.getD_eq_getElem?_getD, hj]
      show 255 < cs.getD j 0
      rw [e]; exact hw⟩
/-- an object of exactly java/lang/String, its two fields found: as the laws ask it -/
theorem strObj {Z U : State} {a0 : Array Value} {kI : Nat} (wi : (Jvm.Cond.instantiable ST kI).before a0 Z = true) (al : Z.vm.Alike U.vm) {x : Addr} {v0 c0 : Value} (E : RoadKit.Exa Z U.heap x ST) (V : RoadKit.Fld Z U.heap x ST "value" "[B" v0) (C : RoadKit.Fld Z U.heap x ST "coder" "B" c0) :
    ∃ (D : Cell) (fV fC : Field), Blank ST x D U ∧ Found ST "value" "[B" fV U ∧ Found ST "coder" "B" fC U ∧ D.slots[fV.slot]? = some v0 ∧ D.slots[fC.slot]? = some c0 ∧ RoadKit.slotOf Z ST "value" "[B" = fV.slot ∧ RoadKit.slotOf Z ST "coder" "B" = fC.slot := by
  obtain ⟨D, cfV, kV, iV, fV, hD, gV, stV, knV, obV, asV, slV⟩ := V
  obtain ⟨D', cfC, kC, iC, fC, hD', gC, stC, -, -, asC, slC⟩ := C
  cases hD.symm.trans hD'
  obtain ⟨D2, kD, e1, e2, e3, e4, e5⟩ := E
  cases hD.symm.trans e1
  obtain ⟨c2, k2, i1, i2, i3, -⟩ := Cond.instantiable_spec wi
  cases e2.symm.trans i1
  cases e3.symm.trans i2
  obtain ⟨kU, u1, u2⟩ := al.2.2 _ _ e3
  exact ⟨D, fV, fC, ⟨hD, ⟨knV, fun q hq => by rw [hq] at obV; cases obV⟩, by rw [al.findClass]; exact e2, kU, u1, by rw [u2]; exact i3, by rw [u2]; exact e5 i3⟩, ⟨SBG.found_only al ⟨cfV, kV, iV, gV⟩, stV⟩, ⟨SBG.found_only al ⟨cfC, kC, iC, gC⟩, stC⟩, slV, slC, by simp [RoadKit.slotOf, gV], by simp [RoadKit.slotOf, gC]⟩
theorem sta_is {Z U : State} (al : Z.vm.Alike U.vm) {C n d : String} {v : Value} (S : RoadKit.Sta Z U.heap C n d v) : StaticIs U C n d v := by
  obtain ⟨cfS, iS, kS, fS, st, cS, t1, t2, t3, t4, t5, t6, t7⟩ := S
  exact StaticIs.there (s := { Z with heap := U.heap }) ⟨cfS, iS, kS, fS, st, cS, t1, t2, t3, t4, t5, (fun q => by rw [q] at t6; cases t6), t7⟩ al rfl
end StrChars.Road
namespace StrChars
open Jvm Sem ClassFile Op Lib Jvm.Stand Jvm.Free.XT Jvm.Free.ALB Jvm.Free.JM Jvm.Free
open Jvm.Lib.Cold (StaticIs)
/-- what place i of a byte[]'s cell holds -/
def yv (A : Cell) (i : Nat) : Int32 := match A.slots[i]? with | some (.int x) => x | _ => 0
theorem yv_get {a : Addr} {A : Cell} {U : State} (h : XT.Arr .byte a A U) (ht : Typed .byte A) {i : Nat} (hi : i < A.slots.size) : A.slots[i]? = some (.int (yv A i)) := by
  have e := Array.getElem?_eq_getElem hi
  have f := ht i _ e
  unfold yv; rw [e]
  generalize A.slots[i] = v at f
  cases v <;> simp [fits] at f ⊢
/-- the two arrays are equal, place for place -/
def EqC (A B : Cell) : Prop := A.slots.size = B.slots.size ∧ ∀ i, i < A.slots.size → yv A i = yv B i
/-- a boolean that says whether p -/
def Says01 (q : Prop) (r : Option Value) (s u : State) : Prop := ∃ v : Int32, r = some (.int v) ∧ u.heap = s.heap ∧ ((v = 1 ∧ q) ∨ (v = 0 ∧ ¬ q))
theorem Says01.mv {q : Prop} : ∀ r (U U' V V' : State), U'.heap = U.heap → V.vm.Alike V'.vm → V'.heap = V.heap → Says01 q r U V → Says01 q r U' V' :=
  fun r U U' V V' h1 _ h2 ⟨v, a, b, c⟩ => ⟨v, a, by rw [h1, h2]; exact b, c⟩
namespace LEq
def yN : MethodName := ⟨"java/lang/StringLatin1", "equals", "([B[B)Z"⟩
abbrev yB : ByteArray := jdk_43_method_13_code
theorem d0 : decode yB 0 = .ok (.aload_n 0, 1) := by decide +kernel
theorem d1 : decode yB 1 = .ok (.arraylength, 1) := by decide +kernel
theorem d2 : decode yB 2 = .ok (.aload_n 1, 1) := by decide +kernel
theorem d3 : decode yB 3 = .ok (.arraylength, 1) := by decide +kernel
theorem d4 : decode yB 4 = .ok (.if_icmp (.ne) 30, 3) := by decide +kernel
theorem d7 : decode yB 7 = .ok (.iconst 0, 1) := by decide +kernel
theorem d8 : decode yB 8 = .ok (.istore_n 2, 1) := by decide +kernel
theorem d9 : decode yB 9 = .ok (.iload_n 2, 1) := by decide +kernel
theorem d10 : decode yB 10 = .ok (.aload_n 0, 1) := by decide +kernel
theorem d11 : decode yB 11 = .ok (.arraylength, 1) := by decide +kernel
theorem d12 : decode yB 12 = .ok (.if_icmp (.ge) 20, 3) := by decide +kernel
theorem d15 : decode yB 15 = .ok (.aload_n 0, 1) := by decide +kernel
theorem d16 : decode yB 16 = .ok (.iload_n 2, 1) := by decide +kernel
theorem d17 : decode yB 17 = .ok (.baload, 1) := by decide +kernel
theorem d18 : decode yB 18 = .ok (.aload_n 1, 1) := by decide +kernel
theorem d19 : decode yB 19 = .ok (.iload_n 2, 1) := by decide +kernel
theorem d20 : decode yB 20 = .ok (.baload, 1) := by decide +kernel
theorem d21 : decode yB 21 = .ok (.if_icmp (.eq) 5, 3) := by decide +kernel
theorem d24 : decode yB 24 = .ok (.iconst 0, 1) := by decide +kernel
theorem d25 : decode yB 25 = .ok (.ireturn, 1) := by decide +kernel
theorem d26 : decode yB 26 = .ok (.iinc 2 1, 3) := by decide +kernel
theorem d29 : decode yB 29 = .ok (.goto (-20), 3) := by decide +kernel
theorem d32 : decode yB 32 = .ok (.iconst 1, 1) := by decide +kernel
theorem d33 : decode yB 33 = .ok (.ireturn, 1) := by decide +kernel
theorem d34 : decode yB 34 = .ok (.iconst 0, 1) := by decide +kernel
theorem d35 : decode yB 35 = .ok (.ireturn, 1) := by decide +kernel
def site : List Cond := []
def tab : Cond := tabOf yN yB 3 (some .boolean) site
def P (a : Addr) (A : Cell) (b : Addr) (B : Cell) (args : Array Value) (s : State) : Prop := args = #[.ref a, .ref b] ∧ XT.Arr .byte a A s ∧ Typed .byte A ∧ XT.Arr .byte b B s ∧ Typed .byte B
/-- whether two byte[] are equal, place for place -/
theorem law (l : Launch) (a : Addr) (A : Cell) (b : Addr) (B : Cell) : Law l yN 2 2 0 0 yB 3 (some .boolean) site (P a A b B) (Says01 (EqC A B)) [] 0 0 := by
  refine Law.of_walk (plainFor_of_name (by decide +kernel)) (by decide +kernel) (by decide +kernel) (by decide) (fun _ _ h => by rw [h.1]; rfl) (fun _ U U' hal hh h => ⟨h.1, h.2.1.mv hal hh, h.2.2.1, h.2.2.2.1.mv hal hh, h.2.2.2.2⟩) (fun r U U' V V' h1 hal h2 h => Says01.mv r U U' V V' h1 hal h2 h) ?_
  intro p e s m args below meth c s₁ X0 hexec hbytes hml hret hlk hnm hown hh0 W hP
  obtain ⟨rfl, hA, tA, hB, tB⟩ := hP
  have a31 := hA.2.2.2
  have b31 := hB.2.2.2
  have hA0 := hA.mv X0.warmed.alike hh0
  have hB0 := hB.mv X0.warmed.alike hh0
  have c1 : Steps p.tables e below (s₁.setTop (entryFrame m #[.ref a, .ref b] 3)) (s₁.setTop (mkF m 0 #[.val (.ref a), .val (.ref b), .unset] [])) := entry rfl
  have c2 : Steps p.tables e below (s₁.setTop (entryFrame m #[.ref a, .ref b] 3)) (s₁.setTop (mkF m 4 #[.val (.ref a), .val (.ref b), .unset] [.int (Int32.ofNat B.slots.size), .int (Int32.ofNat A.slots.size)])) := c1.trans (by
    refine XS.aloadN X0.here hexec rfl (hb hbytes d0) rfl rfl ?_
    refine X0.alen hexec hA0 rfl rfl (hb hbytes d1) ?_
    refine XS.aloadN X0.here hexec rfl (hb hbytes d2) rfl rfl ?_
    refine X0.alen hexec hB0 rfl rfl (hb hbytes d3) ?_
    exact Steps.refl _)
  by_cases hs : A.slots.size = B.slots.size
  · have c3 : Steps p.tables e below (s₁.setTop (entryFrame m #[.ref a, .ref b] 3)) (s₁.setTop (mkF m 9 #[.val (.ref a), .val (.ref b), .val (.int 0)] [])) := c2.trans (by
      refine XS.icmpNo X0.here hexec rfl (hb hbytes d4) rfl (ii_ne_f (by rw [hs])) ?_
      refine iconstV X0.here hexec rfl 0 (hb hbytes d7) (by decide) ?_
      refine XS.istoreN X0.here hexec rfl (hb hbytes d8) rfl rfl ?_
      exact Steps.refl _)
    have loop : ∀ (r i : Nat), i + r = A.slots.size → (∀ j, j < i → yv A j = yv B j) → Steps p.tables e below (s₁.setTop (entryFrame m #[.ref a, .ref b] 3)) (s₁.setTop (mkF m 9 #[.val (.ref a), .val (.ref b), .val (.int (Int32.ofNat i))] [])) → ∃ (pc : Nat) (Ls : Array Slot) (v : Int32), (pc = 25 ∨ pc = 33) ∧ ((v = 1 ∧ EqC A B) ∨ (v = 0 ∧ ¬ EqC A B)) ∧ Steps p.tables e below (s₁.setTop (entryFrame m #[.ref a, .ref b] 3)) (s₁.setTop (mkF m pc Ls [.int v])) := by
      intro r
      induction r with
      | zero =>
        intro i hi he cl
        exact ⟨33, _, 1, Or.inr rfl, Or.inl ⟨rfl, hs, fun j hj => he j (by omega)⟩, cl.trans (by
          refine XS.iloadN X0.here hexec rfl (hb hbytes d9) rfl ?_
          refine XS.aloadN X0.here hexec rfl (hb hbytes d10) rfl rfl ?_
          refine X0.alen hexec hA0 rfl rfl (hb hbytes d11) ?_
          refine XS.icmpYes X0.here hexec rfl (pc0 := 12) rfl (hb hbytes d12) rfl (ii_ge_t (nlt32 (by omega) (by omega))) (by decide) rfl ?_
          refine iconstV X0.here hexec rfl 1 (hb hbytes d32) (by decide) ?_
          exact Steps.refl _)⟩
      | succ r ih =>
        intro i hi he cl
        have c4 : Steps p.tables e below (s₁.setTop (entryFrame m #[.ref a, .ref b] 3)) (s₁.setTop (mkF m 21 #[.val (.ref a), .val (.ref b), .val (.int (Int32.ofNat i))] [.int (yv B i), .int (yv A i)])) := cl.trans (by
          refine XS.iloadN X0.here hexec rfl (hb hbytes d9) rfl ?_
          refine XS.aloadN X0.here hexec rfl (hb hbytes d10) rfl rfl ?_
          refine X0.alen hexec hA0 rfl rfl (hb hbytes d11) ?_
          refine XS.icmpNo X0.here hexec rfl (hb hbytes d12) rfl (ii_ge_f (lt32 (by omega) (by omega))) ?_
          refine XS.aloadN X0.here hexec rfl (hb hbytes d15) rfl rfl ?_
          refine XS.iloadN X0.here hexec rfl (hb hbytes d16) rfl ?_
          refine X0.aget hexec hA0 rfl (yv_get hA tA (i := i) (by omega)) rfl rfl (hb hbytes d17) ?_
          refine XS.aloadN X0.here hexec rfl (hb hbytes d18) rfl rfl ?_
          refine XS.iloadN X0.here hexec rfl (hb hbytes d19) rfl ?_
          refine X0.aget hexec hB0 rfl (yv_get hB tB (i := i) (by omega)) rfl rfl (hb hbytes d20) ?_
          exact Steps.refl _)
        by_cases hv : yv A i = yv B i
        · have c5 : Steps p.tables e below (s₁.setTop (entryFrame m #[.ref a, .ref b] 3)) (s₁.setTop (mkF m 9 #[.val (.ref a), .val (.ref b), .val (.int (Int32.ofNat i + 1))] [])) := c4.trans (by
            refine XS.icmpYes X0.here hexec rfl (pc0 := 21) rfl (hb hbytes d21) rfl (ii_eq_t hv) (by decide) rfl ?_
            refine iincV X0.here hexec rfl 1 (hb hbytes d26) (by decide) rfl rfl ?_
            refine XS.goto X0.here hexec rfl (pc0 := 29) rfl (hb hbytes d29) (by decide) rfl ?_
            exact Steps.refl _)
          rw [succ32] at c5
          exact ih (i + 1) (by omega) (fun j hj => by
            by_cases e : j = i
            · rw [e]; exact hv
            · exact he j (by omega)) c5
        · exact ⟨25, _, 0, Or.inl rfl, Or.inr ⟨rfl, fun q => hv (q.2 i (by omega))⟩, c4.trans (by
            refine XS.icmpNo X0.here hexec rfl (hb hbytes d21) rfl (ii_eq_f hv) ?_
            refine iconstV X0.here hexec rfl 0 (hb hbytes d24) (by decide) ?_
            exact Steps.refl _)⟩
    obtain ⟨pc, Ls, v, hpc, hv, cz⟩ := loop A.slots.size 0 (by omega) (fun j hj => absurd hj (Nat.not_lt_zero j)) c3
    have nv : narrow .boolean (.int v) = .int v := by rcases hv with ⟨rfl, -⟩ | ⟨rfl, -⟩ <;> rfl
    rcases hpc with rfl | rfl
    · exact ⟨s₁, some (.int v), _, _, _, X0, rfl, rfl, rfl, (fun h => by cases h), ⟨v, rfl, hh0, hv⟩, fun fs hl => cz.trans (X0.ireturnOut hexec hret nv (Or.inr (Or.inl rfl)) (hb hbytes d25) hl)⟩
    · exact ⟨s₁, some (.int v), _, _, _, X0, rfl, rfl, rfl, (fun h => by cases h), ⟨v, rfl, hh0, hv⟩, fun fs hl => cz.trans (X0.ireturnOut hexec hret nv (Or.inr (Or.inl rfl)) (hb hbytes d33) hl)⟩
  · have c3 : Steps p.tables e below (s₁.setTop (entryFrame m #[.ref a, .ref b] 3)) (s₁.setTop (mkF m 35 #[.val (.ref a), .val (.ref b), .unset] [.int 0])) := c2.trans (by
      refine XS.icmpYes X0.here hexec rfl (pc0 := 4) rfl (hb hbytes d4) rfl (ii_ne_t (ne32 a31 b31 hs)) (by decide) rfl ?_
      refine iconstV X0.here hexec rfl 0 (hb hbytes d34) (by decide) ?_
      exact Steps.refl _)
    exact ⟨s₁, some (.int 0), _, _, _, X0, rfl, rfl, rfl, (fun h => by cases h), ⟨0, rfl, hh0, Or.inr ⟨rfl, fun q => hs q.1⟩⟩, fun fs hl => c3.trans (X0.ireturnOut hexec hret rfl (Or.inr (Or.inl rfl)) (hb hbytes d35) hl)⟩
end LEq
theorem Cod.ty {cd : Int32} {n : Nat} {f : Nat → Int32} {V : Cell} (h : Cod cd n f V) : Typed .byte V := fun i v hv => by
  have hi : i < V.slots.size := (Array.getElem?_eq_some_iff.mp hv).1
  rcases h with ⟨-, k1, k2⟩ | ⟨-, k1, k2, -⟩
  · rw [(k2 i (by omega)).1] at hv; cases hv; exact fits_lo8 _
  · rcases Nat.mod_two_eq_zero_or_one i with e | e
    · obtain ⟨j, rfl⟩ : ∃ j, i = 2 * j := ⟨i / 2, by omega⟩
      rw [(k2 j (by omega)).1] at hv; cases hv; exact fits_lo8 _
    · obtain ⟨j, rfl⟩ : ∃ j, i = 2 * j + 1 := ⟨i / 2, by omega⟩
      rw [(k2 j (by omega)).2] at hv; cases hv; exact fits_lo8 _
/-- the same text -/
def SameT (n : Nat) (f : Nat → Int32) (k : Nat) (g : Nat → Int32) : Prop := n = k ∧ ∀ j, j < n → f j = g j
theorem lo8_inj {x y : Int32} (h0 : ¬ x < 0) (h1 : ¬ 255 < x) (k0 : ¬ y < 0) (k1 : ¬ 255 < y) (h : lo8 x = lo8 y) : x = y := by
  rw [← lo8_mask h0 h1, ← lo8_mask k0 k1, h]
/-- arrays coded by one coder are equal just where the texts are -/
theorem Cod.eqv {cd : Int32} {n k : Nat} {f g : Nat → Int32} {V V' : Cell} (h : Cod cd n f V) (h' : Cod cd k g V') (hf : ∀ j, j < n → ¬ f j < 0 ∧ ¬ 65535 < f j) (hg : ∀ j, j < k → ¬ g j < 0 ∧ ¬ 65535 < g j) : EqC V V' ↔ SameT n f k g := by
  have yvv : ∀ {W : Cell} {i : Nat} {x : Int32}, W.slots[i]? = some (.int x) → yv W i = x := fun q => by unfold yv; rw [q]
  rcases h with ⟨rfl, k1, k2⟩ | ⟨rfl, k1, k2, -⟩
  · rcases h' with ⟨-, m1, m2⟩ | ⟨e, -⟩
    · constructor
      · rintro ⟨e1, e2⟩
        refine ⟨by omega, fun j hj => ?_⟩
        have q := e2 j (by omega)
        rw [yvv (k2 j hj).1, yvv (m2 j (by omega)).1] at q
        exact lo8_inj (hf j hj).1 (k2 j hj).2 (hg j (by omega)).1 (m2 j (by omega)).2 q
      · rintro ⟨rfl, e2⟩
        refine ⟨by omega, fun j hj => ?_⟩
        rw [yvv (k2 j (by omega)).1, yvv (m2 j (by omega)).1, e2 j (by omega)]
    · exact absurd e (by decide)
  · rcases h' with ⟨e, -⟩ | ⟨-, m1, m2, -⟩
    · exact absurd e (by decide)
    · constructor
      · rintro ⟨e1, e2⟩
        refine ⟨by omega, fun j hj => ?_⟩
        have q1 := e2 (2 * j) (by omega)
        have q2 := e2 (2 * j + 1) (by omega)
        rw [yvv (k2 j hj).1, yvv (m2 j (by omega)).1] at q1
        rw [yvv (k2 j hj).2, yvv (m2 j (by omega)).2] at q2
        rw [← pair_says (hf j hj).1 (hf j hj).2, ← pair_says (hg j (by omega)).1 (hg j (by omega)).2, q1, q2]
      · rintro ⟨rfl, e2⟩
        refine ⟨by omega, fun i hi => ?_⟩
        rcases Nat.mod_two_eq_zero_or_one i with e | e
        · obtain ⟨j, rfl⟩ : ∃ j, i = 2 * j := ⟨i / 2, by omega⟩
          rw [yvv (k2 j (by omega)).1, yvv (m2 j (by omega)).1, e2 j (by omega)]
        · obtain ⟨j, rfl⟩ : ∃ j, i = 2 * j + 1 := ⟨i / 2, by omega⟩
          rw [yvv (k2 j (by omega)).2, yvv (m2 j (by omega)).2, e2 j (by omega)]
/-- two codings differ: so do the texts -/
theorem Cod.dif {cd cd' : Int32} {n k : Nat} {f g : Nat → Int32} {V V' : Cell} (h : Cod cd n f V) (h' : Cod cd' k g V') (hne : ¬ cd = cd') : ¬ SameT n f k g := by
  rintro ⟨rfl, e⟩
  rcases h with ⟨rfl, -, k2⟩ | ⟨rfl, -, -, j, hj, hw⟩
  · rcases h' with ⟨rfl, -⟩ | ⟨-, -, -, j, hj, hw⟩
    · exact hne rfl
    · exact (k2 j hj).2 (by rw [e j hj]; exact hw)
  · rcases h' with ⟨-, -, m2⟩ | ⟨rfl, -⟩
    · exact (m2 j hj).2 (by rw [← e j hj]; exact hw)
    · exact hne rfl
/-- an object of exactly C is an instance of C -/
theorem cinst {p : Program} {l : Launch} {e : Env} {R : Room} {s : State} {m : MethodId} {args : Array Value} {below : List Frame} {meth : Method} {c : Code} {T : State} {locs : List Loc} {cells slots : Nat} (X : Stand p l e R s m args below meth c T locs cells slots) (hexec : p.tables.exec = Jvm.exec) {own C : String} {index : Nat} (hown : s.vm.findClass own = some m.cls) (hlink : (Cond.classLink own index C).before args s = true) {a : Addr} (hE : Exact C a T)
    {g : JFrame} (hg : g.method = m) {rest : List Value} (hstack : g.stack = .ref a :: rest) (hdg : decode c.code g.pc = .ok (.instanceof index, 3)) :
    ∃ T', Stand p l e R s m args below meth c T' locs cells slots ∧ T'.heap = T.heap ∧ ∀ target, Steps p.tables e below (T'.setTop { g with pc := g.pc + 3, stack := .int 1 :: rest }) target → Steps p.tables e below (T.setTop g) target := by
  obtain ⟨cB, h1, D, h2, h3, h4⟩ := hE
  have h1' : s.vm.findClass C = some cB := by rw [← X.warmed.alike.findClass]; exact h1
  obtain ⟨vm', X', st⟩ := X.instanceofYes hexec hown hlink h2 h4 h1' (by rw [h3]; exact Jvm.Free.SB.assignable_self _ _) hg hstack hdg
  exact ⟨_, X', rfl, st⟩
theorem cself {p : Program} {l : Launch} {e : Env} {R : Room} {s : State} {m : MethodId} {args : Array Value} {below : List Frame} {meth : Method} {c : Code} {T : State} {locs : List Loc} {cells slots : Nat} (X : Stand p l e R s m args below meth c T locs cells slots) (hexec : p.tables.exec = Jvm.exec) {own C : String} {index : Nat} (hown : s.vm.findClass own = some m.cls) (hlink : (Cond.classLink own index C).before args s = true) {a : Addr} (hE : Exact C a T)
    {g : JFrame} (hg : g.method = m) {rest : List Value} (hstack : g.stack = .ref a :: rest) (hdg : decode c.code g.pc = .ok (.checkcast index, 3)) :
    ∃ T', Stand p l e R s m args below meth c T' locs cells slots ∧ T'.heap = T.heap ∧ ∀ target, Steps p.tables e below (T'.setTop { g with pc := g.pc + 3, stack := .ref a :: rest }) target → Steps p.tables e below (T.setTop g) target := by
  obtain ⟨cB, h1, D, h2, h3, h4⟩ := hE
  have h1' : s.vm.findClass C = some cB := by rw [← X.warmed.alike.findClass]; exact h1
  obtain ⟨vm', X', st⟩ := X.checkcastYes hexec hown hlink h2 h4 h1' (by rw [h3]; exact Jvm.Free.SB.assignable_self _ _) hg hstack hdg
  exact ⟨_, X', rfl, fun t h => st t (by rw [← hstack] at h; exact h)⟩
namespace SEq
def yN : MethodName := ⟨"java/lang/String", "equals", "(Ljava/lang/Object;)Z"⟩
abbrev yB : ByteArray := jdk_42_method_66_code
theorem d0 : decode yB 0 = .ok (.aload_n 0, 1) := by decide +kernel
theorem d1 : decode yB 1 = .ok (.aload_n 1, 1) := by decide +kernel
theorem d2 : decode yB 2 = .ok (.if_acmp (.ne) 5, 3) := by decide +kernel
theorem d5 : decode yB 5 = .ok (.iconst 1, 1) := by decide +kernel
theorem d6 : decode yB 6 = .ok (.ireturn, 1) := by decide +kernel
theorem d7 : decode yB 7 = .ok (.aload_n 1, 1) := by decide +kernel
theorem d8 : decode yB 8 = .ok (.instanceof 10, 3) := by decide +kernel
theorem d11 : decode yB 11 = .ok (.ifCond (.eq) 43, 3) := by decide +kernel
theorem d14 : decode yB 14 = .ok (.aload_n 1, 1) := by decide +kernel
theorem d15 : decode yB 15 = .ok (.checkcast 10, 3) := by decide +kernel
theorem d18 : decode yB 18 = .ok (.astore_n 2, 1) := by decide +kernel
theorem d19 : decode yB 19 = .ok (.getstatic 38, 3) := by decide +kernel
theorem d22 : decode yB 22 = .ok (.ifCond (.eq) 14, 3) := by decide +kernel
theorem d25 : decode yB 25 = .ok (.aload_n 0, 1) := by decide +kernel
theorem d26 : decode yB 26 = .ok (.getfield 15, 3) := by decide +kernel
theorem d29 : decode yB 29 = .ok (.aload_n 2, 1) := by decide +kernel
theorem d30 : decode yB 30 = .ok (.getfield 15, 3) := by decide +kernel
theorem d33 : decode yB 33 = .ok (.if_icmp (.ne) 21, 3) := by decide +kernel
theorem d36 : decode yB 36 = .ok (.aload_n 0, 1) := by decide +kernel
theorem d37 : decode yB 37 = .ok (.getfield 9, 3) := by decide +kernel
theorem d40 : decode yB 40 = .ok (.aload_n 2, 1) := by decide +kernel
theorem d41 : decode yB 41 = .ok (.getfield 9, 3) := by decide +kernel
theorem d44 : decode yB 44 = .ok (.invokestatic 541, 3) := by decide +kernel
theorem d47 : decode yB 47 = .ok (.ifCond (.eq) 7, 3) := by decide +kernel
theorem d50 : decode yB 50 = .ok (.iconst 1, 1) := by decide +kernel
theorem d51 : decode yB 51 = .ok (.goto 4, 3) := by decide +kernel
theorem d54 : decode yB 54 = .ok (.iconst 0, 1) := by decide +kernel
theorem d55 : decode yB 55 = .ok (.ireturn, 1) := by decide +kernel
def site : List Cond := [.classLink "java/lang/String" 10 "java/lang/String", .fieldLink "java/lang/String" 38 "java/lang/String" "COMPACT_STRINGS" "Z", .fieldLink "java/lang/String" 15 "java/lang/String" "coder" "B", .fieldLink "java/lang/String" 9 "java/lang/String" "value" "[B", LEq.tab] ++ staticW "java/lang/String" 541 LEq.yN
def tab : Cond := tabOf yN yB 3 (some .boolean) site
def P (x t : Addr) (V : Cell) (cd : Int32) (n : Nat) (f : Nat → Int32) (y t' : Addr) (V' : Cell) (cd' : Int32) (k : Nat) (g : Nat → Int32) (z : Int32) (args : Array Value) (s : State) : Prop := args = #[.ref x, .ref y] ∧ Txt x t V cd n f s ∧ Txt y t' V' cd' k g s ∧ StaticIs s "java/lang/String" "COMPACT_STRINGS" "Z" (.int z) ∧ ¬ z = 0
/-- equals(Object) of two Strings: whether the texts are the same -/
theorem law (l : Launch) (x t : Addr) (V : Cell) (cd : Int32) (n : Nat) (f : Nat → Int32) (y t' : Addr) (V' : Cell) (cd' : Int32) (k : Nat) (g : Nat → Int32) (z : Int32) : Law l yN 2 1 1 14 yB 3 (some .boolean) site (P x t V cd n f y t' V' cd' k g z) (Says01 (SameT n f k g)) [] 0 0 := by
  refine Law.of_walk (plainFor_of_name (by decide +kernel)) (by decide +kernel) (by decide +kernel) (by decide) (fun _ _ h => by rw [h.1]; rfl) (fun _ U U' hal hh h => ⟨h.1, h.2.1.mv hal hh, h.2.2.1.mv hal hh, h.2.2.2.1.there hal hh, h.2.2.2.2⟩) (fun r U U' V V' h1 hal h2 h => Says01.mv r U U' V V' h1 hal h2 h) ?_
  intro p e s m args below meth c s₁ X0 hexec hbytes hml hret hlk hnm hown hh0 W hP
  obtain ⟨rfl, hx, hy, s1, hz⟩ := hP
  have c1 : Steps p.tables e below (s₁.setTop (entryFrame m #[.ref x, .ref y] 3)) (s₁.setTop (mkF m 2 #[.val (.ref x), .val (.ref y), .unset] [.ref y, .ref x])) := Steps.trans (entry rfl) (by
    show Steps p.tables e below (s₁.setTop (mkF m 0 #[.val (.ref x), .val (.ref y), .unset] [])) _
    refine XS.aloadN X0.here hexec rfl (hb hbytes d0) rfl rfl ?_
    refine XS.aloadN X0.here hexec rfl (hb hbytes d1) rfl rfl ?_
    exact Steps.refl _)
  by_cases hxy : x = y
  · have c2 : Steps p.tables e below (s₁.setTop (entryFrame m #[.ref x, .ref y] 3)) (s₁.setTop (mkF m 6 #[.val (.ref x), .val (.ref y), .unset] [.int 1])) := c1.trans (by
      refine acmpNo X0.here hexec rfl (hb hbytes d2) rfl rfl rfl (by simp [acmp, hxy]) ?_
      refine iconstV X0.here hexec rfl 1 (hb hbytes d5) (by decide) ?_
      exact Steps.refl _)
    subst hxy
    have ec : cd = cd' := by
      obtain ⟨D, fd, a1, a2, a3⟩ := hx.2.2.1
      obtain ⟨D', fd', b1, b2, b3⟩ := hy.2.2.1
      cases a1.symm.trans b1
      obtain ⟨q1, q2, q3, q4⟩ := a2.1
      obtain ⟨r1, r2, r3, r4⟩ := b2.1
      cases q4.symm.trans r4
      cases a3.symm.trans b3; rfl
    have et : t = t' := by
      obtain ⟨D, fd, a1, a2, a3⟩ := hx.2.1
      obtain ⟨D', fd', b1, b2, b3⟩ := hy.2.1
      cases a1.symm.trans b1
      obtain ⟨q1, q2, q3, q4⟩ := a2.1
      obtain ⟨r1, r2, r3, r4⟩ := b2.1
      cases q4.symm.trans r4
      cases a3.symm.trans b3; rfl
    subst ec et
    have ev : V = V' := by cases hx.2.2.2.1.1.symm.trans hy.2.2.2.1.1; rfl
    subst ev
    have hs : SameT n f k g := (Cod.eqv hx.2.2.2.2.1 hy.2.2.2.2.1 hx.2.2.2.2.2 hy.2.2.2.2.2).mp ⟨rfl, fun _ _ => rfl⟩
    exact ⟨s₁, some (.int 1), _, _, _, X0, rfl, rfl, rfl, (fun h => by cases h), ⟨1, rfl, hh0, Or.inl ⟨rfl, hs⟩⟩, fun fs hl => c2.trans (X0.ireturnOut hexec hret rfl (Or.inr (Or.inl rfl)) (hb hbytes d6) hl)⟩
  · have c2 : Steps p.tables e below (s₁.setTop (entryFrame m #[.ref x, .ref y] 3)) (s₁.setTop (mkF m 8 #[.val (.ref x), .val (.ref y), .unset] [.ref y])) := c1.trans (by
      refine acmpYes X0.here hexec rfl (pc0 := 2) rfl (hb hbytes d2) rfl rfl rfl (by simp [acmp, hxy]) (by decide) rfl ?_
      refine XS.aloadN X0.here hexec rfl (hb hbytes d7) rfl rfl ?_
      exact Steps.refl _)
    obtain ⟨T3, X3, q3, st3⟩ := cinst X0 hexec hown (wk W (.classLink "java/lang/String" 10 "java/lang/String")) (hy.mv X0.warmed.alike hh0).1 (g := (mkF m 8 #[.val (.ref x), .val (.ref y), .unset] [.ref y])) rfl (rest := []) rfl (hb hbytes d8)
    have hh3 := q3.trans hh0
    have c4 : Steps p.tables e below (s₁.setTop (entryFrame m #[.ref x, .ref y] 3)) (T3.setTop (mkF m 15 #[.val (.ref x), .val (.ref y), .unset] [.ref y])) := (c2.trans (st3 _ (Steps.refl _))).trans (by
      refine XS.ifNo X3.here hexec rfl (hb hbytes d11) rfl (i0_eq_f (by decide)) ?_
      refine XS.aloadN X3.here hexec rfl (hb hbytes d14) rfl rfl ?_
      exact Steps.refl _)
    obtain ⟨T5, X5, q5, st5⟩ := cself X3 hexec hown (wk W (.classLink "java/lang/String" 10 "java/lang/String")) (hy.mv X3.warmed.alike hh3).1 (g := (mkF m 15 #[.val (.ref x), .val (.ref y), .unset] [.ref y])) rfl (rest := []) rfl (hb hbytes d15)
    have hh5 := q5.trans hh3
    have c6 : Steps p.tables e below (s₁.setTop (entryFrame m #[.ref x, .ref y] 3)) (T5.setTop (mkF m 19 #[.val (.ref x), .val (.ref y), .val (.ref y)] [])) := (c4.trans (st5 _ (Steps.refl _))).trans (by
      refine XS.astoreN X5.here hexec rfl (hb hbytes d18) rfl rfl rfl ?_
      exact Steps.refl _)
    obtain ⟨T7, X7, q7, st7⟩ := X5.sget hexec hown (wk W (.fieldLink "java/lang/String" 38 "java/lang/String" "COMPACT_STRINGS" "Z")) s1 (fun _ _ h => by rw [hh5]; exact h) (g := (mkF m 19 #[.val (.ref x), .val (.ref y), .val (.ref y)] [])) rfl (hb hbytes d19)
    have hh7 := q7.trans hh5
    have c8 : Steps p.tables e below (s₁.setTop (entryFrame m #[.ref x, .ref y] 3)) (T7.setTop (mkF m 26 #[.val (.ref x), .val (.ref y), .val (.ref y)] [.ref x])) := (c6.trans (st7 _ (Steps.refl _))).trans (by
      refine XS.ifNo X7.here hexec rfl (hb hbytes d22) rfl (i0_eq_f hz) ?_
      refine XS.aloadN X7.here hexec rfl (hb hbytes d25) rfl rfl ?_
      exact Steps.refl _)
    obtain ⟨T9, X9, q9, st9⟩ := X7.hget hexec hown (wk W (.fieldLink "java/lang/String" 15 "java/lang/String" "coder" "B")) (hx.mv X7.warmed.alike hh7).2.2.1 (g := (mkF m 26 #[.val (.ref x), .val (.ref y), .val (.ref y)] [.ref x])) rfl (rest := []) rfl (hb hbytes d26)
    have hh9 := q9.trans hh7
    have c10 : Steps p.tables e below (s₁.setTop (entryFrame m #[.ref x, .ref y] 3)) (T9.setTop (mkF m 30 #[.val (.ref x), .val (.ref y), .val (.ref y)] [.ref y, .int cd])) := (c8.trans (st9 _ (Steps.refl _))).trans (by
      refine XS.aloadN X9.here hexec rfl (hb hbytes d29) rfl rfl ?_
      exact Steps.refl _)
    obtain ⟨T11, X11, q11, st11⟩ := X9.hget hexec hown (wk W (.fieldLink "java/lang/String" 15 "java/lang/String" "coder" "B")) (hy.mv X9.warmed.alike hh9).2.2.1 (g := (mkF m 30 #[.val (.ref x), .val (.ref y), .val (.ref y)] [.ref y, .int cd])) rfl (rest := [.int cd]) rfl (hb hbytes d30)
    have hh11 := q11.trans hh9
    have c12 : Steps p.tables e below (s₁.setTop (entryFrame m #[.ref x, .ref y] 3)) (T11.setTop (mkF m 33 #[.val (.ref x), .val (.ref y), .val (.ref y)] [.int cd', .int cd])) := c10.trans (st11 _ (Steps.refl _))
    by_cases hcd : cd = cd'
    · subst hcd
      have c13 : Steps p.tables e below (s₁.setTop (entryFrame m #[.ref x, .ref y] 3)) (T11.setTop (mkF m 37 #[.val (.ref x), .val (.ref y), .val (.ref y)] [.ref x])) := c12.trans (by
        refine XS.icmpNo X11.here hexec rfl (hb hbytes d33) rfl (ii_ne_f rfl) ?_
        refine XS.aloadN X11.here hexec rfl (hb hbytes d36) rfl rfl ?_
        exact Steps.refl _)
      obtain ⟨T14, X14, q14, st14⟩ := X11.hget hexec hown (wk W (.fieldLink "java/lang/String" 9 "java/lang/String" "value" "[B")) (hx.mv X11.warmed.alike hh11).2.1 (g := (mkF m 37 #[.val (.ref x), .val (.ref y), .val (.ref y)] [.ref x])) rfl (rest := []) rfl (hb hbytes d37)
      have hh14 := q14.trans hh11
      have c15 : Steps p.tables e below (s₁.setTop (entryFrame m #[.ref x, .ref y] 3)) (T14.setTop (mkF m 41 #[.val (.ref x), .val (.ref y), .val (.ref y)] [.ref y, .ref t])) := (c13.trans (st14 _ (Steps.refl _))).trans (by
        refine XS.aloadN X14.here hexec rfl (hb hbytes d40) rfl rfl ?_
        exact Steps.refl _)
      obtain ⟨T16, X16, q16, st16⟩ := X14.hget hexec hown (wk W (.fieldLink "java/lang/String" 9 "java/lang/String" "value" "[B")) (hy.mv X14.warmed.alike hh14).2.1 (g := (mkF m 41 #[.val (.ref x), .val (.ref y), .val (.ref y)] [.ref y, .ref t])) rfl (rest := [.ref t]) rfl (hb hbytes d41)
      have hh16 := q16.trans hh14
      have c17 : Steps p.tables e below (s₁.setTop (entryFrame m #[.ref x, .ref y] 3)) (T16.setTop (mkF m 44 #[.val (.ref x), .val (.ref y), .val (.ref y)] [.ref t', .ref t])) := c15.trans (st16 _ (Steps.refl _))
      obtain ⟨v18, T18, X18, E18, g18⟩ := X16.callS hexec (LEq.law l t V t' V') hown (wks W (staticW "java/lang/String" 541 LEq.yN)) (wk W LEq.tab) (W := 0) (Nat.le_of_ble_eq_true rfl) (Nat.le_of_ble_eq_true rfl) (Nat.le_refl _) (Nat.le_refl _) (g := (mkF m 44 #[.val (.ref x), .val (.ref y), .val (.ref y)] [.ref t', .ref t])) rfl (by rw [hml]; rfl) c17 (argsL := [.ref t, .ref t']) (rest := []) rfl rfl (by show 2 * 0 + 0 ≤ _; decide) (hb hbytes d44) (⟨rfl, hx.2.2.2.1.mv X16.warmed.alike hh16, hx.2.2.2.2.1.ty, hy.2.2.2.1.mv X16.warmed.alike hh16, hy.2.2.2.2.1.ty⟩)
      obtain ⟨v, rfl, q18, hv⟩ := E18
      have iff := Cod.eqv hx.2.2.2.2.1 hy.2.2.2.2.1 hx.2.2.2.2.2 hy.2.2.2.2.2
      rcases hv with ⟨rfl, he⟩ | ⟨rfl, he⟩
      · have c19 : Steps p.tables e below (s₁.setTop (entryFrame m #[.ref x, .ref y] 3)) (T18.setTop (mkF m 55 #[.val (.ref x), .val (.ref y), .val (.ref y)] [.int 1])) := Steps.trans g18 (by
          refine XS.ifNo X18.here hexec rfl (hb hbytes d47) rfl (i0_eq_f (by decide)) ?_
          refine iconstV X18.here hexec rfl 1 (hb hbytes d50) (by decide) ?_
          refine XS.goto X18.here hexec rfl (pc0 := 51) rfl (hb hbytes d51) (by decide) rfl ?_
          exact Steps.refl _)
        exact ⟨T18, some (.int 1), _, _, _, X18, rfl, rfl, rfl, (fun h => by cases h), ⟨1, rfl, q18.trans hh16, Or.inl ⟨rfl, iff.mp he⟩⟩, fun fs hl => c19.trans (X18.ireturnOut hexec hret rfl (Or.inr (Or.inl rfl)) (hb hbytes d55) hl)⟩
      · have c19 : Steps p.tables e below (s₁.setTop (entryFrame m #[.ref x, .ref y] 3)) (T18.setTop (mkF m 55 #[.val (.ref x), .val (.ref y), .val (.ref y)] [.int 0])) := Steps.trans g18 (by
          refine XS.ifYes X18.here hexec rfl (pc0 := 47) rfl (hb hbytes d47) rfl (i0_eq_t rfl) (by decide) rfl ?_
          refine iconstV X18.here hexec rfl 0 (hb hbytes d54) (by decide) ?_
          exact Steps.refl _)
        exact ⟨T18, some (.int 0), _, _, _, X18, rfl, rfl, rfl, (fun h => by cases h), ⟨0, rfl, q18.trans hh16, Or.inr ⟨rfl, fun q => he (iff.mpr q)⟩⟩, fun fs hl => c19.trans (X18.ireturnOut hexec hret rfl (Or.inr (Or.inl rfl)) (hb hbytes d55) hl)⟩
    · have c13 : Steps p.tables e below (s₁.setTop (entryFrame m #[.ref x, .ref y] 3)) (T11.setTop (mkF m 55 #[.val (.ref x), .val (.ref y), .val (.ref y)] [.int 0])) := c12.trans (by
        refine XS.icmpYes X11.here hexec rfl (pc0 := 33) rfl (hb hbytes d33) rfl (ii_ne_t hcd) (by decide) rfl ?_
        refine iconstV X11.here hexec rfl 0 (hb hbytes d54) (by decide) ?_
        exact Steps.refl _)
      exact ⟨T11, some (.int 0), _, _, _, X11, rfl, rfl, rfl, (fun h => by cases h), ⟨0, rfl, hh11, Or.inr ⟨rfl, Cod.dif hx.2.2.2.2.1 hy.2.2.2.2.1 hcd⟩⟩, fun fs hl => c13.trans (X11.ireturnOut hexec hret rfl (Or.inr (Or.inl rfl)) (hb hbytes d55) hl)⟩
theorem pays {l : Launch} {R : Room} {p : Program} {e : Env} {below : List Frame} {s : State} {sargs : Array Value} {len W : Nat} (x t : Addr) (V : Cell) (cd : Int32) (n : Nat) (f : Nat → Int32) (y t' : Addr) (V' : Cell) (cd' : Int32) (k : Nat) (g : Nat → Int32) (z : Int32) (htab : tab.before sargs s = true) (hfr : 2 ≤ R.frames) (hlo : W + 28 ≤ R.locals) :
    Back l R p e below s sargs yN len W (fun A₁ a₁ => A₁.cells + 0 ≤ R.cells ∧ A₁.slots + 0 ≤ R.slots ∧ P x t V cd n f y t' V' cd' k g z a₁ A₁.U) (fun A₁ _ v₁ B₁ => Says01 (SameT n f k g) v₁ A₁.U B₁.U ∧ B₁.locs = A₁.locs ++ [] ∧ B₁.cells = A₁.cells + 0 ∧ B₁.slots = A₁.slots + 0) :=
  (law l x t V cd n f y t' V' cd' k g z).pays htab hfr (by omega)
end SEq
end StrChars
namespace StrChars.Road
open Jvm Sem ClassFile Op Lib Jvm.Stand Jvm.Free Jvm.Free.XT
open Jvm.Lib.Cold (StaticIs)
/-- the words of String.equals(Object) -/
abbrev wordsEq : List Jvm.Cond := [.code SEq.yN SEq.yB 3 (some .boolean), .initialized ST, .classLink ST 10 ST, .fieldLink ST 38 ST "COMPACT_STRINGS" "Z", .fieldLink ST 15 ST "coder" "B", .fieldLink ST 9 ST "value" "[B", .methodLink ST 541 LEq.yN, .static LEq.yN, .code LEq.yN LEq.yB 3 (some .boolean), .initialized "java/lang/StringLatin1"]
theorem tabEq_of {a : Array Value} {s : State} (h : ∀ w ∈ wordsEq, w.before a s = true) : SEq.tab.before a s = true := by
  have hl : LEq.tab.before a s = true := unparts (wk h (.code LEq.yN LEq.yB 3 (some .boolean))) (wks h (.initialized LEq.yN.cls :: LEq.site))
  have q := consq hl h
  exact unparts (wk q (.code SEq.yN SEq.yB 3 (some .boolean))) (wks q (.initialized SEq.yN.cls :: SEq.site))
theorem movedEq {Z s : State} {a0 args : Array Value} (hZ : Z.Warmed39 s.vm) (hw : ∀ d ∈ wordsEq, d.before a0 Z = true) : ∀ d ∈ wordsEq, d.before args s = true := fun d hd => by
  have t : ∀ d ∈ wordsEq, (d.onTables && d.keepsFace) = true := by decide +kernel
  exact RoadKit.mv hZ (hw d hd) (t d hd)
/-- the road's facts of a String, as the laws ask it -/
theorem txt_of {Z U : State} {a0 : Array Value} {kI : Nat} (wi : (Jvm.Cond.instantiable ST kI).before a0 Z = true) (al : Z.vm.Alike U.vm) {x t : Addr} {kb : ClassId} {cs : List Int32} {cd N2 : Int32} {vs : List Value} (E : RoadKit.Exa Z U.heap x ST) (V : RoadKit.Fld Z U.heap x ST "value" "[B" (.ref t)) (C : RoadKit.Fld Z U.heap x ST "coder" "B" (.int cd)) (K : RoadKit.Arv Z U.heap t kb .byte N2 vs (.int 0)) (hc : CodA cs cd N2 vs) (hb : ∀ c ∈ cs, ¬ c < 0 ∧ ¬ (65535 : Int32) < c) (l2 : cs.length ≤ 4000) :
    ∃ A, Txt x t A cd cs.length (fun j => cs.getD j 0) U := by
  obtain ⟨A, K1, K2, K3, K4, K5, K6⟩ := K
  have hcod := hc.cod (by omega) K3 K5
  obtain ⟨D, fV, fC, hB, F1, F2, g1, g2, -, -⟩ := strObj wi al E V C
  exact ⟨A, ⟨_, hB.2.2.1, D, hB.1, rfl, by cases q : D.vm <;> first | rfl | exact absurd q (hB.2.1.2 _)⟩, Has.of hB F1 g1, Has.of hB F2 g2, ⟨K1.1, State.isArrayOf_alike al K1.2.1, K1.2.2, by rcases hcod with ⟨-, q, -⟩ | ⟨-, q, -⟩ <;> omega⟩, hcod, fun j hj => by
    have e : cs.getD j 0 = cs[j] := by simp [List.getD_eq_getElem?_getD, hj]
    show ¬ cs.getD j 0 < 0 ∧ ¬ 65535 < cs.getD j 0
    rw [e]; exact hb _ (List.getElem_mem _)⟩
theorem same_list (cs ds : List Int32) : SameT cs.length (fun j => cs.getD j 0) ds.length (fun j => ds.getD j 0) ↔ cs = ds := by
  constructor
  · rintro ⟨e, q⟩
    refine List.ext_getElem e fun j h1 h2 => ?_
    have := q j h1
    simpa [List.getD_eq_getElem?_getD, h1, h2] using this
  · rintro rfl
    exact ⟨rfl, fun _ _ => rfl⟩
/-- **equals(Object) OF TWO SUCH STRINGS**: 1 just where the chars are the same -/
theorem eqW {p : Program} {l : Launch} {e : Env} {R : Room} {s : State} {args : Array Value} {below : List Frame} {len W : Nat} {Z : State} {a0 : Array Value} {h : Heap} (hZ : Z.Warmed39 s.vm) (hw : ∀ d ∈ wordsEq, d.before a0 Z = true) {kI : Nat} (wi : (Jvm.Cond.instantiable ST kI).before a0 Z = true)
    {x t : Addr} {kb : ClassId} {cs : List Int32} {cd N2 : Int32} {vs : List Value} (E : RoadKit.Exa Z h x ST) (V : RoadKit.Fld Z h x ST "value" "[B" (.ref t)) (C : RoadKit.Fld Z h x ST "coder" "B" (.int cd)) (K : RoadKit.Arv Z h t kb .byte N2 vs (.int 0)) (hc : CodA cs cd N2 vs) (hb : ∀ c ∈ cs, ¬ c < 0 ∧ ¬ (65535 : Int32) < c) (l2 : cs.length ≤ 4000)
    {y t' : Addr} {kb' : ClassId} {ds : List Int32} {cd' N2' : Int32} {vs' : List Value} (E' : RoadKit.Exa Z h y ST) (V' : RoadKit.Fld Z h y ST "value" "[B" (.ref t')) (C' : RoadKit.Fld Z h y ST "coder" "B" (.int cd')) (K' : RoadKit.Arv Z h t' kb' .byte N2' vs' (.int 0)) (hc' : CodA ds cd' N2' vs') (hb' : ∀ c ∈ ds, ¬ c < 0 ∧ ¬ (65535 : Int32) < c) (l2' : ds.length ≤ 4000)
    {z : Int32} (S : RoadKit.Sta Z h ST "COMPACT_STRINGS" "Z" (.int z)) (hz : ¬ z = 0) (hfr : 2 ≤ R.frames) (hlo : W + 28 ≤ R.locals) :
    Back l R p e below s args (⟨"java/lang/String", "equals", "(Ljava/lang/Object;)Z"⟩ : MethodName) len W (fun P a => a = #[.ref x, .ref y] ∧ P.U.heap = h ∧ P.cells + 0 ≤ R.cells ∧ P.slots + 0 ≤ R.slots)
      (fun P _ v B => ∃ L, (((v = some (.int 1) ∧ cs = ds) ∨ (v = some (.int 0) ∧ ¬ cs = ds)) ∧ L = [] ∧ B.U.heap = h) ∧ B.locs = P.locs ++ L ∧ B.cells = P.cells + 0 ∧ B.slots = P.slots + 0) := by
  intro m meth c P g ig mk a X hg hsize hdg hW hn hp'
  obtain ⟨rfl, rfl, r1, r2⟩ := hp'
  have al : Z.vm.Alike P.U.vm := hZ.alike.trans X.warmed.alike
  obtain ⟨A, hx⟩ := txt_of wi al E V C K hc hb l2
  obtain ⟨A', hy⟩ := txt_of wi al E' V' C' K' hc' hb' l2'
  obtain ⟨v, B, X', ⟨⟨w, hv, hh, hq⟩, hl, hk, hs⟩, st⟩ := SEq.pays x t A cd cs.length (fun j => cs.getD j 0) y t' A' cd' ds.length (fun j => ds.getD j 0) z (tabEq_of (movedEq hZ hw)) hfr hlo m meth c P g ig mk _ X hg hsize hdg hW hn ⟨r1, r2, rfl, hx, hy, sta_is al S, hz⟩
  refine ⟨v, B, X', ⟨[], ⟨?_, rfl, hh⟩, hl, hk, hs⟩, st⟩
  rcases hq with ⟨rfl, q⟩ | ⟨rfl, q⟩
  · exact Or.inl ⟨hv, (same_list cs ds).mp q⟩
  · exact Or.inr ⟨hv, fun e => q ((same_list cs ds).mpr e)⟩
end StrChars.Road
namespace StrChars.Road
open Jvm Sem ClassFile Op Lib Jvm.Stand Jvm.Free Jvm.Free.XT
open Jvm.Lib.Cold (StaticIs)
/-- what backV says of its String, as the contracts of this text ask it: cs's low bytes, coder 0 -/
theorem codOf {cs : List Int32} {n : Nat} (hn : cs.length = n) (hb : ∀ c ∈ cs, ¬ 255 < c) : CodA cs 0 (Int32.ofNat n) ((cs.map lo8).map Value.int) := Or.inl ⟨rfl, by rw [hn], by simp [List.map_map, Function.comp_def], hb⟩
end StrChars.Road
end Jvm.Pilot.@@N@@
namespace Jvm.Pilot.@@N@@
open Jvm Jvm.ClassFile Sem Op Lib Jvm.Free Jvm.Stand Jvm.LawKit Jvm.RoadKit Jvm.OwnKit
/-- the object at a is a String of these chars -/
def SV (Z : State) (h : Heap) (a : Addr) (cs : List Int32) : Prop :=
  Exa Z h a "java/lang/String" ∧ ∃ (cd : Int32) (b : Addr) (kb : ClassId) (N2 : Int32) (vs : List Value), Fld Z h a "java/lang/String" "coder" "B" (.int cd) ∧ Fld Z h a "java/lang/String" "value" "[B" (.ref b) ∧ Arv Z h b kb .byte N2 vs (.int 0) ∧ StrChars.Road.CodA cs cd N2 vs ∧ (∀ c ∈ cs, ¬ c < 0 ∧ ¬ (65535 : Int32) < c) ∧ cs.length ≤ 4000
theorem SV.exa {Z : State} {h : Heap} {a : Addr} {cs : List Int32} (S : SV Z h a cs) : Exa Z h a "java/lang/String" := S.1
theorem SV.lt {Z : State} {h : Heap} {a : Addr} {cs : List Int32} (S : SV Z h a cs) : a < h.size := S.1.lt
theorem SV.ext {Z : State} {h h' : Heap} {a : Addr} {cs : List Int32} (S : SV Z h a cs) (E : Ext h h') : SV Z h' a cs := by
  obtain ⟨X, cd, b, kb, N2, vs, C, V, A, r⟩ := S
  exact ⟨X.ext E, cd, b, kb, N2, vs, C.ext E, V.ext E, A.ext E, r⟩
theorem SV.keepX {Z : State} {h h' : Heap} {a : Addr} {cs : List Int32} {ws : List Addr} (S : SV Z h a cs) (K : Keep h h' ws) (q : ∀ x ∈ ws, x ≠ a ∧ NB Z h x) : SV Z h' a cs := by
  obtain ⟨X, cd, b, kb, N2, vs, C, V, A, r⟩ := S
  have ha : a ∉ ws := fun z => (q a z).1 rfl
  have hb : b ∉ ws := fun z => by obtain ⟨c, A', -⟩ := A; exact (q b z).2 c A'
  exact ⟨X.keep K, cd, b, kb, N2, vs, C.keep K ha, V.keep K ha, A.keep K hb, r⟩
section Str
variable {p : Program} {l : Launch} {e : Env} {R : Room} {s : State} {args : Array Value} {below : List Frame} {len Wd : Nat} {Z : State} {a0 : Array Value} {h : Heap} {vm0 : Vm}
/-- new String(char[]) of one or more chars below 256 -/
theorem newS (hZ : Z.Warmed39 vm0) (hw : ∀ d ∈ StrChars.Road.words, d.before a0 Z = true) (wi : (Jvm.Cond.instantiable "java/lang/String" 4).before a0 Z = true) (O : Ext Z.heap h) {x b : Addr} {kC : ClassId} {cs : List Int32} {d v0 c0 : Value} {z N : Int32}
    (hx0 : Z.heap.size ≤ x) (E : Exa Z h x "java/lang/String") (V : Fld Z h x "java/lang/String" "value" "[B" v0) (C : Fld Z h x "java/lang/String" "coder" "B" c0) (K : Arv Z h b kC .char N (cs.map Value.int) d) (S : Sta Z Z.heap "java/lang/String" "COMPACT_STRINGS" "Z" (.int z)) (hz : ¬ z = 0)
    (n : Nat) (hn : cs.length = n) (hN : N = Int32.ofNat n) (l0 : 0 < n) (l2 : n ≤ 4000) (hp : ∀ c ∈ cs, C8 c) (hfr : 4 ≤ R.frames) (hlo : Wd + 65 ≤ R.locals) :
    Back l R p e below (s.setVm vm0) args (⟨"java/lang/String", "<init>", "([C)V"⟩ : MethodName) len Wd (PreB R #[.ref x, .ref b] h 1 n) (PostB Z h [x] (fun v h' => v = none ∧ SV Z h' x cs) 1 n) := by
  refine Back.mono (StrChars.Road.backV (s := s.setVm vm0) hZ hw wi (bs := cs.map (fun c => c.toInt8.toInt32)) hx0 O.1 E V C K (S.ext O) hz hn hN l0 l2 hp rfl hfr hlo) (fun _ _ q => q) (fun P a v B hp' hq => ?_)
  obtain ⟨L, ⟨q1, q2, q3, q4, q5, t, kb, -, -, -, q6, q7⟩, hl, hc, hs⟩ := hq
  exact ⟨L, ⟨q2, q3, q1, q4, 0, t, kb, N, _, q5, q6, q7, by rw [hN]; exact StrChars.Road.codOf hn (fun c hc => (hp c hc).2), fun c hc => (hp c hc).up, by omega⟩, hl, hc, hs⟩
end Str
end Jvm.Pilot.@@N@@
namespace Jvm.Pilot.@@N@@
open Jvm Jvm.ClassFile Sem Op Lib Jvm.Free Jvm.Stand Jvm.LawKit Jvm.RoadKit Jvm.OwnKit
theorem eqS {p : Program} {l : Launch} {e : Env} {R : Room} {s : State} {args : Array Value} {below : List Frame} {len Wd : Nat} {Z : State} {a0 : Array Value} {h : Heap} {vm0 : Vm} (hZ : Z.Warmed39 vm0) (hw : ∀ d ∈ StrChars.Road.wordsEq, d.before a0 Z = true) (wi : (Jvm.Cond.instantiable "java/lang/String" 4).before a0 Z = true) (O : Ext Z.heap h) {x y : Addr} {cs ds : List Int32} {z : Int32}
    (S : SV Z h x cs) (S' : SV Z h y ds) (hC : Sta Z Z.heap "java/lang/String" "COMPACT_STRINGS" "Z" (.int z)) (hz : ¬ z = 0) (hfr : 2 ≤ R.frames) (hlo : Wd + 28 ≤ R.locals) :
    Back l R p e below (s.setVm vm0) args (⟨"java/lang/String", "equals", "(Ljava/lang/Object;)Z"⟩ : MethodName) len Wd (PreB R #[.ref x, .ref y] h 0 0) (PostB Z h [] (fun v h' => v = some (.int (if cs = ds then 1 else 0)) ∧ h' = h) 0 0) := by
  obtain ⟨E, cd, b, kb, N2, vs, C, V, A, hc, hb, l2⟩ := S
  obtain ⟨E', cd', b', kb', N2', vs', C', V', A', hc', hb', l2'⟩ := S'
  refine Back.mono (StrChars.Road.eqW (s := s.setVm vm0) hZ hw wi E V C A hc hb l2 E' V' C' A' hc' hb' l2' (hC.ext O) hz hfr hlo) (fun _ _ q => q) (fun P a v B hp hq => ?_)
  obtain ⟨L, ⟨q1, q2, q3⟩, hl, hk, hs⟩ := hq
  refine ⟨L, ⟨by rw [q2]; exact Fr.nil _, by rw [q3]; exact Keep.refl _ _, ?_, q3⟩, hl, hk, hs⟩
  rcases q1 with ⟨r1, r2⟩ | ⟨r1, r2⟩
  · rw [r1, if_pos r2]
  · rw [r1, if_neg r2]
end Jvm.Pilot.@@N@@
namespace Jvm.Pilot.@@N@@
open Jvm Jvm.ClassFile Sem Op Lib Jvm.Free Jvm.Stand Jvm.LawKit Jvm.RoadKit Jvm.OwnKit Bundle Jvm.Pilot.@@N@@.Jvm.D
theorem wd {a0 : Array Value} {Z : State} (hw : ∀ d ∈ tables_1, d.before a0 Z = true) (k : Nat) {d : Jvm.Cond} (h : tables_1[k]? = some d) : d.before a0 Z = true := hw _ (List.mem_of_getElem? h)
theorem wsNew {a0 : Array Value} {Z : State} (hw : ∀ d ∈ tables_1, d.before a0 Z = true) : ∀ d ∈ StrChars.Road.words, d.before a0 Z = true := fun d hd => hw d ((by decide +kernel : ∀ d ∈ StrChars.Road.words, d ∈ tables_1) d hd)
theorem wsEq {a0 : Array Value} {Z : State} (hw : ∀ d ∈ tables_1, d.before a0 Z = true) : ∀ d ∈ StrChars.Road.wordsEq, d.before a0 Z = true := fun d hd => hw d ((by decide +kernel : ∀ d ∈ StrChars.Road.wordsEq, d ∈ tables_1) d hd)
theorem elw {a0 : Array Value} {Z : State} (hw : ∀ d ∈ tables_1, d.before a0 Z = true) : EW Z a0 consts_1 := EW.cons (wd hw 18 rfl) (by decide) (EW.nil)
theorem wsStr {a0 : Array Value} {Z : State} (hw : ∀ d ∈ tables_1, d.before a0 Z = true) : ∀ d ∈ Bundle.stringAtoms, d.before a0 Z = true := fun d hd => hw d ((by decide +kernel : ∀ d ∈ Bundle.stringAtoms, d ∈ tables_1) d hd)
theorem pn0 : plainName "java/lang/String" = true := by first | (simp [plainName, overriddenIn]; done) | decide +kernel
theorem pn1 : plainName "com/example/ken/ken/collection/TagClosesPinLaw" = true := by first | (simp [plainName, overriddenIn]; done) | decide +kernel
theorem pn2 : plainName "com/example/ken/ken/collection/TagScanner$Tag" = true := by first | (simp [plainName, overriddenIn]; done) | decide +kernel
theorem d1_0 : decode method_2_code 0 = .ok (.iload_n 0, 1) := by decide +kernel
theorem d1_1 : decode method_2_code 1 = .ok (.ifCond .ne 14, 3) := by decide +kernel
theorem d1_4 : decode method_2_code 4 = .ok (.new 7, 3) := by decide +kernel
theorem d1_7 : decode method_2_code 7 = .ok (.dup, 1) := by decide +kernel
theorem d1_8 : decode method_2_code 8 = .ok (.iconst 0, 1) := by decide +kernel
theorem d1_9 : decode method_2_code 9 = .ok (.newarray .char, 2) := by decide +kernel
theorem d1_11 : decode method_2_code 11 = .ok (.invokespecial 9, 3) := by decide +kernel
theorem d1_14 : decode method_2_code 14 = .ok (.areturn, 1) := by decide +kernel
theorem d1_15 : decode method_2_code 15 = .ok (.iload_n 0, 1) := by decide +kernel
theorem d1_16 : decode method_2_code 16 = .ok (.iconst 1, 1) := by decide +kernel
theorem d1_17 : decode method_2_code 17 = .ok (.if_icmp .ne 18, 3) := by decide +kernel
theorem d1_20 : decode method_2_code 20 = .ok (.new 7, 3) := by decide +kernel
theorem d1_23 : decode method_2_code 23 = .ok (.dup, 1) := by decide +kernel
theorem d1_24 : decode method_2_code 24 = .ok (.iconst 1, 1) := by decide +kernel
theorem d1_25 : decode method_2_code 25 = .ok (.newarray .char, 2) := by decide +kernel
theorem d1_27 : decode method_2_code 27 = .ok (.dup, 1) := by decide +kernel
theorem d1_28 : decode method_2_code 28 = .ok (.iconst 0, 1) := by decide +kernel
theorem d1_29 : decode method_2_code 29 = .ok (.iload_n 1, 1) := by decide +kernel
theorem d1_30 : decode method_2_code 30 = .ok (.castore, 1) := by decide +kernel
theorem d1_31 : decode method_2_code 31 = .ok (.invokespecial 9, 3) := by decide +kernel
theorem d1_34 : decode method_2_code 34 = .ok (.areturn, 1) := by decide +kernel
theorem d1_35 : decode method_2_code 35 = .ok (.iload_n 0, 1) := by decide +kernel
theorem d1_36 : decode method_2_code 36 = .ok (.iconst 2, 1) := by decide +kernel
theorem d1_37 : decode method_2_code 37 = .ok (.if_icmp .ne 22, 3) := by decide +kernel
theorem d1_40 : decode method_2_code 40 = .ok (.new 7, 3) := by decide +kernel
theorem d1_43 : decode method_2_code 43 = .ok (.dup, 1) := by decide +kernel
theorem d1_44 : decode method_2_code 44 = .ok (.iconst 2, 1) := by decide +kernel
theorem d1_45 : decode method_2_code 45 = .ok (.newarray .char, 2) := by decide +kernel
theorem d1_47 : decode method_2_code 47 = .ok (.dup, 1) := by decide +kernel
theorem d1_48 : decode method_2_code 48 = .ok (.iconst 0, 1) := by decide +kernel
theorem d1_49 : decode method_2_code 49 = .ok (.iload_n 1, 1) := by decide +kernel
theorem d1_50 : decode method_2_code 50 = .ok (.castore, 1) := by decide +kernel
theorem d1_51 : decode method_2_code 51 = .ok (.dup, 1) := by decide +kernel
theorem d1_52 : decode method_2_code 52 = .ok (.iconst 1, 1) := by decide +kernel
theorem d1_53 : decode method_2_code 53 = .ok (.iload_n 2, 1) := by decide +kernel
theorem d1_54 : decode method_2_code 54 = .ok (.castore, 1) := by decide +kernel
theorem d1_55 : decode method_2_code 55 = .ok (.invokespecial 9, 3) := by decide +kernel
theorem d1_58 : decode method_2_code 58 = .ok (.areturn, 1) := by decide +kernel
theorem d1_59 : decode method_2_code 59 = .ok (.new 7, 3) := by decide +kernel
theorem d1_62 : decode method_2_code 62 = .ok (.dup, 1) := by decide +kernel
theorem d1_63 : decode method_2_code 63 = .ok (.iconst 3, 1) := by decide +kernel
theorem d1_64 : decode method_2_code 64 = .ok (.newarray .char, 2) := by decide +kernel
theorem d1_66 : decode method_2_code 66 = .ok (.dup, 1) := by decide +kernel
theorem d1_67 : decode method_2_code 67 = .ok (.iconst 0, 1) := by decide +kernel
theorem d1_68 : decode method_2_code 68 = .ok (.iload_n 1, 1) := by decide +kernel
theorem d1_69 : decode method_2_code 69 = .ok (.castore, 1) := by decide +kernel
theorem d1_70 : decode method_2_code 70 = .ok (.dup, 1) := by decide +kernel
theorem d1_71 : decode method_2_code 71 = .ok (.iconst 1, 1) := by decide +kernel
theorem d1_72 : decode method_2_code 72 = .ok (.iload_n 2, 1) := by decide +kernel
theorem d1_73 : decode method_2_code 73 = .ok (.castore, 1) := by decide +kernel
theorem d1_74 : decode method_2_code 74 = .ok (.dup, 1) := by decide +kernel
theorem d1_75 : decode method_2_code 75 = .ok (.iconst 2, 1) := by decide +kernel
theorem d1_76 : decode method_2_code 76 = .ok (.iload_n 3, 1) := by decide +kernel
theorem d1_77 : decode method_2_code 77 = .ok (.castore, 1) := by decide +kernel
theorem d1_78 : decode method_2_code 78 = .ok (.invokespecial 9, 3) := by decide +kernel
theorem d1_81 : decode method_2_code 81 = .ok (.areturn, 1) := by decide +kernel
theorem d2_0 : decode jdk_42_method_3_code 0 = .ok (.aload_n 0, 1) := by decide +kernel
theorem d2_1 : decode jdk_42_method_3_code 1 = .ok (.aload_n 1, 1) := by decide +kernel
theorem d2_2 : decode jdk_42_method_3_code 2 = .ok (.iconst 0, 1) := by decide +kernel
theorem d2_3 : decode jdk_42_method_3_code 3 = .ok (.aload_n 1, 1) := by decide +kernel
theorem d2_4 : decode jdk_42_method_3_code 4 = .ok (.arraylength, 1) := by decide +kernel
theorem d2_5 : decode jdk_42_method_3_code 5 = .ok (.aconst_null, 1) := by decide +kernel
theorem d2_6 : decode jdk_42_method_3_code 6 = .ok (.invokespecial 27, 3) := by decide +kernel
theorem d2_9 : decode jdk_42_method_3_code 9 = .ok (.return_, 1) := by decide +kernel
theorem d3_0 : decode jdk_42_method_149_code 0 = .ok (.aload_n 0, 1) := by decide +kernel
theorem d3_1 : decode jdk_42_method_149_code 1 = .ok (.invokespecial 1, 3) := by decide +kernel
theorem d3_4 : decode jdk_42_method_149_code 4 = .ok (.iload_n 3, 1) := by decide +kernel
theorem d3_5 : decode jdk_42_method_149_code 5 = .ok (.ifCond .ne 22, 3) := by decide +kernel
theorem d3_8 : decode jdk_42_method_149_code 8 = .ok (.aload_n 0, 1) := by decide +kernel
theorem d3_9 : decode jdk_42_method_149_code 9 = .ok (.ldc 7, 2) := by decide +kernel
theorem d3_11 : decode jdk_42_method_149_code 11 = .ok (.getfield 9, 3) := by decide +kernel
theorem d3_14 : decode jdk_42_method_149_code 14 = .ok (.putfield 9, 3) := by decide +kernel
theorem d3_17 : decode jdk_42_method_149_code 17 = .ok (.aload_n 0, 1) := by decide +kernel
theorem d3_18 : decode jdk_42_method_149_code 18 = .ok (.ldc 7, 2) := by decide +kernel
theorem d3_20 : decode jdk_42_method_149_code 20 = .ok (.getfield 15, 3) := by decide +kernel
theorem d3_23 : decode jdk_42_method_149_code 23 = .ok (.putfield 15, 3) := by decide +kernel
theorem d3_26 : decode jdk_42_method_149_code 26 = .ok (.return_, 1) := by decide +kernel
theorem d5_0 : decode prog_16_method_1_code 0 = .ok (.aload_n 0, 1) := by decide +kernel
theorem d5_1 : decode prog_16_method_1_code 1 = .ok (.invokespecial 1, 3) := by decide +kernel
theorem d5_4 : decode prog_16_method_1_code 4 = .ok (.aload_n 0, 1) := by decide +kernel
theorem d5_5 : decode prog_16_method_1_code 5 = .ok (.aload_n 1, 1) := by decide +kernel
theorem d5_6 : decode prog_16_method_1_code 6 = .ok (.putfield 7, 3) := by decide +kernel
theorem d5_9 : decode prog_16_method_1_code 9 = .ok (.aload_n 0, 1) := by decide +kernel
theorem d5_10 : decode prog_16_method_1_code 10 = .ok (.iload_n 2, 1) := by decide +kernel
theorem d5_11 : decode prog_16_method_1_code 11 = .ok (.putfield 13, 3) := by decide +kernel
theorem d5_14 : decode prog_16_method_1_code 14 = .ok (.aload_n 0, 1) := by decide +kernel
theorem d5_15 : decode prog_16_method_1_code 15 = .ok (.iload_n 3, 1) := by decide +kernel
theorem d5_16 : decode prog_16_method_1_code 16 = .ok (.putfield 17, 3) := by decide +kernel
theorem d5_19 : decode prog_16_method_1_code 19 = .ok (.aload_n 0, 1) := by decide +kernel
theorem d5_20 : decode prog_16_method_1_code 20 = .ok (.iload 4, 2) := by decide +kernel
theorem d5_22 : decode prog_16_method_1_code 22 = .ok (.putfield 20, 3) := by decide +kernel
theorem d5_25 : decode prog_16_method_1_code 25 = .ok (.aload_n 0, 1) := by decide +kernel
theorem d5_26 : decode prog_16_method_1_code 26 = .ok (.iload 5, 2) := by decide +kernel
theorem d5_28 : decode prog_16_method_1_code 28 = .ok (.putfield 24, 3) := by decide +kernel
theorem d5_31 : decode prog_16_method_1_code 31 = .ok (.return_, 1) := by decide +kernel
theorem d6_0 : decode prog_16_method_8_code 0 = .ok (.aload_n 0, 1) := by decide +kernel
theorem d6_1 : decode prog_16_method_8_code 1 = .ok (.getfield 13, 3) := by decide +kernel
theorem d6_4 : decode prog_16_method_8_code 4 = .ok (.ifCond .eq 18, 3) := by decide +kernel
theorem d6_7 : decode prog_16_method_8_code 7 = .ok (.aload_n 0, 1) := by decide +kernel
theorem d6_8 : decode prog_16_method_8_code 8 = .ok (.getfield 7, 3) := by decide +kernel
theorem d6_11 : decode prog_16_method_8_code 11 = .ok (.aload_n 1, 1) := by decide +kernel
theorem d6_12 : decode prog_16_method_8_code 12 = .ok (.invokevirtual 27, 3) := by decide +kernel
theorem d6_15 : decode prog_16_method_8_code 15 = .ok (.ifCond .eq 7, 3) := by decide +kernel
theorem d6_18 : decode prog_16_method_8_code 18 = .ok (.iconst 1, 1) := by decide +kernel
theorem d6_19 : decode prog_16_method_8_code 19 = .ok (.goto 4, 3) := by decide +kernel
theorem d6_22 : decode prog_16_method_8_code 22 = .ok (.iconst 0, 1) := by decide +kernel
theorem d6_23 : decode prog_16_method_8_code 23 = .ok (.ireturn, 1) := by decide +kernel
theorem d7_0 : decode jdk_42_method_66_code 0 = .ok (.aload_n 0, 1) := by decide +kernel
theorem d7_1 : decode jdk_42_method_66_code 1 = .ok (.aload_n 1, 1) := by decide +kernel
theorem d7_2 : decode jdk_42_method_66_code 2 = .ok (.if_acmp .ne 5, 3) := by decide +kernel
theorem d7_7 : decode jdk_42_method_66_code 7 = .ok (.aload_n 1, 1) := by decide +kernel
theorem d7_8 : decode jdk_42_method_66_code 8 = .ok (.instanceof 10, 3) := by decide +kernel
theorem d7_11 : decode jdk_42_method_66_code 11 = .ok (.ifCond .eq 43, 3) := by decide +kernel
theorem d7_54 : decode jdk_42_method_66_code 54 = .ok (.iconst 0, 1) := by decide +kernel
theorem d7_55 : decode jdk_42_method_66_code 55 = .ok (.ireturn, 1) := by decide +kernel
theorem pd0 : parseMethodDescriptor "([CIILjava/lang/Void;)V" = some ⟨[(.array .char), .int, .int, (.object "java/lang/Void")], none⟩ := by decide +kernel
theorem pd1 : parseMethodDescriptor "([C)V" = some ⟨[(.array .char)], none⟩ := by decide +kernel
theorem pd2 : parseMethodDescriptor "(Ljava/lang/Object;)Z" = some ⟨[(.object "java/lang/Object")], some .boolean⟩ := by decide +kernel
theorem pd3 : parseMethodDescriptor "(ICCC)Ljava/lang/String;" = some ⟨[.int, .char, .char, .char], some (.object "java/lang/String")⟩ := by decide +kernel
theorem pd4 : parseMethodDescriptor "(Ljava/lang/String;ZZII)V" = some ⟨[(.object "java/lang/String"), .boolean, .boolean, .int, .int], none⟩ := by decide +kernel
theorem pd5 : parseMethodDescriptor "(Ljava/lang/String;)Z" = some ⟨[(.object "java/lang/String")], some .boolean⟩ := by decide +kernel
theorem ef0 (m : MethodId) (x0 : Addr) : entryFrame m #[(.ref x0), .null] 3 = mkF m 0 #[.val (.ref x0), .val .null, .unset] [] := by first | (simp [entryFrame, mkF, argsToLocals, cat_int, cat_long, cat_refv, cat_null]; done) | rfl
theorem ef1 (m : MethodId) (x0 : Addr) (x1 : Addr) (x2 : Int32) (x3 : Int32) : entryFrame m #[(.ref x0), (.ref x1), (.int x2), (.int x3), .null] 6 = mkF m 0 #[.val (.ref x0), .val (.ref x1), .val (.int x2), .val (.int x3), .val .null, .unset] [] := by first | (simp [entryFrame, mkF, argsToLocals, cat_int, cat_long, cat_refv, cat_null]; done) | rfl
theorem ef2 (m : MethodId) (x0 : Addr) (x1 : Addr) : entryFrame m #[(.ref x0), (.ref x1)] 2 = mkF m 0 #[.val (.ref x0), .val (.ref x1)] [] := by first | (simp [entryFrame, mkF, argsToLocals, cat_int, cat_long, cat_refv, cat_null]; done) | rfl
theorem ef3 (m : MethodId) (x0 : Int32) (x1 : Int32) (x2 : Int32) (x3 : Int32) : entryFrame m #[(.int x0), (.int x1), (.int x2), (.int x3)] 4 = mkF m 0 #[.val (.int x0), .val (.int x1), .val (.int x2), .val (.int x3)] [] := by first | (simp [entryFrame, mkF, argsToLocals, cat_int, cat_long, cat_refv, cat_null]; done) | rfl
theorem ef4 (m : MethodId) (x0 : Addr) (x1 : Value) (c1 : x1.category = 1) (x2 : Int32) (x3 : Int32) (x4 : Int32) (x5 : Int32) : entryFrame m #[(.ref x0), x1, (.int x2), (.int x3), (.int x4), (.int x5)] 6 = mkF m 0 #[.val (.ref x0), .val x1, .val (.int x2), .val (.int x3), .val (.int x4), .val (.int x5)] [] := by first | (simp [entryFrame, mkF, argsToLocals, cat_int, cat_long, cat_refv, cat_null, c1]; done) | rfl
theorem ef5 (m : MethodId) (x0 : Addr) : entryFrame m #[(.ref x0), .null] 2 = mkF m 0 #[.val (.ref x0), .val .null] [] := by first | (simp [entryFrame, mkF, argsToLocals, cat_int, cat_long, cat_refv, cat_null]; done) | rfl
theorem ef6 (m : MethodId) (x0 : Int32) (x1 : Int32) (x2 : Int32) (x3 : Int32) (x4 : Int32) : entryFrame m #[(.int x0), (.int x1), (.int x2), (.int x3), (.int x4)] maxLocals = mkF m 0 #[.val (.int x0), .val (.int x1), .val (.int x2), .val (.int x3), .val (.int x4), .unset, .unset, .unset, .unset, .unset, .unset, .unset, .unset, .unset, .unset, .unset, .unset, .unset, .unset, .unset, .unset, .unset, .unset, .unset] [] := by first | (simp [entryFrame, mkF, argsToLocals, cat_int, cat_long, cat_refv, cat_null, maxLocals]; done) | rfl
def mkL (n c0 c1 c2 : Int32) : List Int32 := if n = 0 then [] else if n = 1 then [c0] else if n = 2 then [c0, c1] else [c0, c1, c2]
theorem own_n {v p : Int32} (h : v = OwnKit.i2c (p &&& (255 : Int32))) : C8 v := h ▸ i2c_c8 p
theorem own_e {v n p q : Int32} {P P' : Prop} [Decidable P] [Decidable P'] (h : v = (if P then OwnKit.i2c (p &&& (255 : Int32)) else (if P' then OwnKit.i2c (q &&& (255 : Int32)) else n))) (hn : C8 n) : C8 v := by
  subst h; split
  · exact i2c_c8 p
  · split
    · exact i2c_c8 q
    · exact hn
theorem own_b {x : Int32} {P : Prop} [Decidable P] (h : x = (if P then (0 : Int32) else (1 : Int32))) : x = 0 ∨ x = 1 := by subst h; split <;> simp
theorem m4 (x : Int32) : x &&& (3 : Int32) = 0 ∨ x &&& (3 : Int32) = 1 ∨ x &&& (3 : Int32) = 2 ∨ x &&& (3 : Int32) = 3 := by
  have h1 : (x &&& (3 : Int32)).toInt = x.toInt % 2 ^ 2 := Jvm.Kit.i32_mask x 3 (k := 2) (by decide) (by decide)
  have q : (x &&& (3 : Int32)).toInt = 0 ∨ (x &&& (3 : Int32)).toInt = 1 ∨ (x &&& (3 : Int32)).toInt = 2 ∨ (x &&& (3 : Int32)).toInt = 3 := by rw [h1]; omega
  rcases q with q | q | q | q
  · exact Or.inl (Int32.toInt_inj.mp (q.trans rfl))
  · exact Or.inr (Or.inl (Int32.toInt_inj.mp (q.trans rfl)))
  · exact Or.inr (Or.inr (Or.inl (Int32.toInt_inj.mp (q.trans rfl))))
  · exact Or.inr (Or.inr (Or.inr (Int32.toInt_inj.mp (q.trans rfl))))
theorem own_m4 {v x : Int32} (h : v = x &&& (3 : Int32)) : v = 0 ∨ v = 1 ∨ v = 2 ∨ v = 3 := h ▸ m4 x
theorem own_m4e {v n x : Int32} {P : Prop} [Decidable P] (h : v = (if P then x &&& (3 : Int32) else n)) (hn : n = 0 ∨ n = 1 ∨ n = 2 ∨ n = 3) : v = 0 ∨ v = 1 ∨ v = 2 ∨ v = 3 := by
  subst h; split
  · exact m4 x
  · exact hn
theorem mkL_eq {n k a b e c d f : Int32} (hn : n = 0 ∨ n = 1 ∨ n = 2 ∨ n = 3) (hk : k = 0 ∨ k = 1 ∨ k = 2 ∨ k = 3) : mkL n a b e = mkL k c d f ↔ (n = k ∧ (n < 1 ∨ a = c) ∧ (n < 2 ∨ b = d) ∧ (n < 3 ∨ e = f)) := by
  rcases hn with rfl | rfl | rfl | rfl <;> rcases hk with rfl | rfl | rfl | rfl <;> simp +decide [mkL]
theorem own_end {v5 b8 v14 v15 v16 b17 b18 b19 b1 v29 b30 b32 b34 : Int32} (h34 : b34 = (if v29 = b32 then (1 : Int32) else (0 : Int32))) (h32 : b32 = (if b1 = 0 then (0 : Int32) else (if b30 = 0 then (0 : Int32) else (1 : Int32))))
    (h30 : b30 = (if v5 = b8 then (if v5 < (1 : Int32) then (if v5 < (2 : Int32) then (if v5 < (3 : Int32) then (1 : Int32) else (if v16 = b19 then (1 : Int32) else (0 : Int32))) else (if v15 = b18 then (if v5 < (3 : Int32) then (1 : Int32) else (if v16 = b19 then (1 : Int32) else (0 : Int32))) else (0 : Int32))) else (if v14 = b17 then (if v5 < (2 : Int32) then (if v5 < (3 : Int32) then (1 : Int32) else (if v16 = b19 then (1 : Int32) else (0 : Int32))) else (if v15 = b18 then (if v5 < (3 : Int32) then (1 : Int32) else (if v16 = b19 then (1 : Int32) else (0 : Int32))) else (0 : Int32))) else (0 : Int32))) else (0 : Int32)))
    (h29 : v29 = (if ¬ b1 = 0 ∧ (mkL v5 v14 v15 v16) = (mkL b8 b17 b18 b19) then (1 : Int32) else (0 : Int32))) (r1 : v5 = 0 ∨ v5 = 1 ∨ v5 = 2 ∨ v5 = 3) (r2 : b8 = 0 ∨ b8 = 1 ∨ b8 = 2 ∨ b8 = 3) : some (Value.int b34) = some (.int 1) := by
  have q30 : b30 = (if (mkL v5 v14 v15 v16) = (mkL b8 b17 b18 b19) then (1 : Int32) else (0 : Int32)) := by
    rw [h30]; simp only [mkL_eq r1 r2]
    by_cases e1 : v5 = b8
    · subst e1
      by_cases e2 : v5 < 1 <;> by_cases e3 : v5 < 2 <;> by_cases e4 : v5 < 3 <;> by_cases e5 : v14 = b17 <;> by_cases e6 : v15 = b18 <;> by_cases e7 : v16 = b19 <;> simp [e2, e3, e4, e5, e6, e7]
    · simp [e1]
  rw [h34, h32, h29, q30]
  by_cases P : mkL v5 v14 v15 v16 = mkL b8 b17 b18 b19 <;> by_cases q : b1 = 0 <;> simp [P, q]
def QEqN (Z : State) (a : Addr) (h0 : Heap) : Option Value → Heap → Prop := fun v h => v = some (.int 0) ∧ h = h0
set_option maxRecDepth 65536 in
set_option maxHeartbeats 40000000 in
theorem rmEqN (l : Launch) (Z : State) (a0 : Array Value) (hw : ∀ d ∈ tables_1, d.before a0 Z = true) (a : Addr) (h0 : Heap) (O : Ext Z.heap h0) :
    CN [] l Z (⟨"java/lang/String", "equals", "(Ljava/lang/Object;)Z"⟩ : MethodName) jdk_42_method_66_code 3 (Option.some Jvm.ClassFile.FieldType.boolean) ({ frames := 0, cells := 0, slots := 0, locals := 0 } : Room) #[(.ref a), .null] h0 [] (QEqN Z a h0) := by
  refine CN.of_walk (plainFor_of_name pn0) O (fun _ q => nomatch q) ?_
  intro p e s m below meth c T0 W0 hx hby hml hoZ hnm hret hlk
  have H0 := W0.here; have hz0 := W0.zsize
  refine Goes.cast (ef0 m a) ?_
  refine G.aloadN H0 hx 1 (hb hby d7_0) rfl rfl rfl ?_
  refine G.aloadN H0 hx 2 (hb hby d7_1) rfl rfl rfl ?_
  refine G.acmpY H0 hx 7 (hb hby d7_2) rfl rfl (by (first | rfl | simp [XT.acmp]) /- true -/) (by decide) rfl ?_
  refine G.aloadN H0 hx 8 (hb hby d7_7) rfl rfl rfl ?_
  refine Wk.instNull W0 hx 11 (hb hby d7_8) rfl ?_
  refine G.ifY H0 hx 54 (hb hby d7_11) (zeq (by decide)).1 (by decide) rfl ?_
  refine G.iconst H0 hx 55 (0 : Int32) (hb hby d7_54) rfl rfl ?_
  exact Wk.retN W0 hx (0 : Int32) (t := .boolean) rfl (by simp) hret hlk (hb hby d7_55) (by decide) (by decide) ⟨rfl, rfl⟩
def QEm4 (Z : State) (a : Addr) (b : Addr) (h0 : Heap) : Option Value → Heap → Prop := fun v h => v = none ∧ SV Z h a []
set_option maxRecDepth 65536 in
set_option maxHeartbeats 40000000 in
theorem rmEm4 (l : Launch) (Z : State) (a0 : Array Value) (hw : ∀ d ∈ tables_1, d.before a0 Z = true) (a : Addr) (b : Addr) (h0 : Heap) (O : Ext Z.heap h0) (gz_a : Z.heap.size ≤ a) (Ea : Exa Z h0 a "java/lang/String") (Fv : Fld Z h0 a "java/lang/String" "value" "[B" .null) (Fc : Fld Z h0 a "java/lang/String" "coder" "B" (.int 0)) :
    CW [] l Z consts_1 (⟨"java/lang/String", "<init>", "([CIILjava/lang/Void;)V"⟩ : MethodName) jdk_42_method_149_code 6 (Option.none : Option Jvm.ClassFile.FieldType) ({ frames := 1, cells := 4, slots := 8, locals := 14 } : Room) #[(.ref a), (.ref b), (.int (0 : Int32)), (.int (0 : Int32)), .null] h0 [a] (QEm4 Z a b h0) := by
  refine CW.of_walk (plainFor_of_name pn0) O (ala gz_a ala0) ?_
  intro p e s m below meth c T0 W0 hsf hx hby hml hoZ hnm hret hlk
  have H0 := W0.here; have hz0 := W0.zsize; have hEL := elw hw
  refine Goes.cast (ef1 m a b (0 : Int32) (0 : Int32)) ?_
  have la := ltN Ea.lt
  refine G.aloadN H0 hx 1 (hb hby d3_0) rfl rfl rfl ?_
  refine Wk.initO W0 hx hoZ (wd hw 15 rfl) (wd hw 16 rfl) (wd hw 17 rfl) (by rw [hml]; rfl) 4 (hb hby d3_1) rfl (by decide) 0 (Nat.le_of_eq rfl) (by decide) ?_
  intro T1 W1; have H1 := W1.here
  refine G.iloadN H1 hx 5 (hb hby d3_4) rfl rfl ?_
  refine G.ifN H1 hx 8 (hb hby d3_5) (zeq (by decide)).2 rfl ?_
  refine G.aloadN H1 hx 9 (hb hby d3_8) rfl rfl rfl ?_
  refine Wk.ldcE W1 hx hoZ (text := "") (wd hw 18 rfl) (wsStr hw) hEL (by decide) (vs := []) (z := 0) ⟨by decide, by decide⟩ (by decide) (by decide) 11 (hb hby d3_9) rfl 0 (by decide) (by decide) (by decide) (by decide) ?_
  intro vm2 T2 h2 a2 b2 k2 W2 E2 C2 X2 F2c F2v V2 sep2
  have H2 := W2.here; have z2 := E2.1; have l2 := ltN X2.lt; have m2 := ltN V2.lt
  obtain ⟨nA2_a, nB2_a⟩ := sep2 a (C2.safe (ltA (by omega)) (hsf a (by simp)))
  have pA2_a := neN nA2_a; have pB2_a := neN nB2_a
  refine Wk.getF W2 hx hoZ (host := "") (Or.inl (wd hw 24 rfl)) Via.refl F2v 14 (hb hby d3_11) rfl ?_
  intro T3 W3; have H3 := W3.here
  refine Wk.putF W3 hx hoZ (wd hw 24 rfl) Via.refl (.ref b2) (Fv.ext E2) (Ea.ext E2) (Or.inr ⟨(wd hw 20 rfl), rfl, hnm⟩) (wd hw 5 rfl) (ty := (.array .byte)) (by decide) rfl rfl (Or.inl (by simp)) (C2.safe (ltA (by omega)) (hsf a (by simp))) 17 (hb hby d3_14) rfl ?_
  intro T4 h4 W4 R4 C4; have H4 := W4.here; have z4 := R4.size
  have F4 := ((Fv.ext E2)).same R4
  refine G.aloadN H4 hx 18 (hb hby d3_17) rfl rfl rfl ?_
  refine Wk.ldcE W4 hx hoZ (text := "") (wd hw 18 rfl) (wsStr hw) hEL (by decide) (vs := []) (z := 0) ⟨by decide, by decide⟩ (by decide) (by decide) 20 (hb hby d3_18) rfl 0 (by decide) (by decide) (by decide) (by decide) ?_
  intro vm5 T5 h5 a5 b5 k5 W5 E5 C5 X5 F5c F5v V5 sep5
  have H5 := W5.here; have z5 := E5.1; have l5 := ltN X5.lt; have m5 := ltN V5.lt
  obtain ⟨nA5_a, nB5_a⟩ := sep5 a (C5.safe (ltA (by omega)) (C4.safe (ltA (by omega)) (C2.safe (ltA (by omega)) (hsf a (by simp)))))
  have pA5_a := neN nA5_a; have pB5_a := neN nB5_a
  refine Wk.getF W5 hx hoZ (host := "") (Or.inl (wd hw 25 rfl)) Via.refl F5c 23 (hb hby d3_20) rfl ?_
  intro T6 W6; have H6 := W6.here
  refine Wk.putF W6 hx hoZ (wd hw 25 rfl) Via.refl (.int (0 : Int32)) (((Fc.ext E2).other R4 (Or.inr (slot_ne (Or.inr (wd hw 21 rfl)) (Or.inr (wd hw 20 rfl)) (by decide) (t := .byte) (t' := (.array .byte)) (by decide) (by decide)))).ext E5) (((Ea.ext E2).wr R4).ext E5) (Or.inr ⟨(wd hw 21 rfl), rfl, hnm⟩) (wd hw 5 rfl) (ty := .byte) (by decide) rfl rfl (Or.inl (by simp)) (C5.safe (ltA (by omega)) (C4.safe (ltA (by omega)) (C2.safe (ltA (by omega)) (hsf a (by simp))))) 26 (hb hby d3_23) rfl ?_
  intro T7 h7 W7 R7 C7; have H7 := W7.here; have z7 := R7.size
  have F7 := ((((Fc.ext E2).other R4 (Or.inr (slot_ne (Or.inr (wd hw 21 rfl)) (Or.inr (wd hw 20 rfl)) (by decide) (t := .byte) (t' := (.array .byte)) (by decide) (by decide)))).ext E5)).same R7
  exact Wk.retVW W7 hx hEL hret hlk (hb hby d3_26) (by decide) (by decide) ⟨rfl, ((((Ea.ext E2).wr R4).ext E5).wr R7), 0, _, _, 0, [], F7, ((F4.ext E5).other R7 (Or.inr (slot_ne (Or.inr (wd hw 20 rfl)) (Or.inr (wd hw 21 rfl)) (by decide) (t := (.array .byte)) (t' := .byte) (by decide) (by decide)))), (((V2.other R4 (neA (by omega))).ext E5).other R7 (neA (by omega))), Or.inl ⟨rfl, rfl, rfl, ala0⟩, ala0, by decide⟩
def QEm1 (Z : State) (a : Addr) (b : Addr) (kb : ClassId) (h0 : Heap) : Option Value → Heap → Prop := fun v h => v = none ∧ SV Z h a []
set_option maxRecDepth 65536 in
set_option maxHeartbeats 40000000 in
theorem rmEm1 (l : Launch) (Z : State) (a0 : Array Value) (hw : ∀ d ∈ tables_1, d.before a0 Z = true) (a : Addr) (b : Addr) (kb : ClassId) (h0 : Heap) (O : Ext Z.heap h0) (gz_a : Z.heap.size ≤ a) (Ea : Exa Z h0 a "java/lang/String") (Fv : Fld Z h0 a "java/lang/String" "value" "[B" .null) (Fc : Fld Z h0 a "java/lang/String" "coder" "B" (.int 0)) (Vb : Arv Z h0 b kb .char 0 [] (.int 0)) :
    CW [] l Z consts_1 (⟨"java/lang/String", "<init>", "([C)V"⟩ : MethodName) jdk_42_method_3_code 2 (Option.none : Option Jvm.ClassFile.FieldType) ({ frames := 2, cells := 4, slots := 8, locals := 32 } : Room) #[(.ref a), (.ref b)] h0 [a] (QEm1 Z a b kb h0) := by
  refine CW.of_walk (plainFor_of_name pn0) O (ala gz_a ala0) ?_
  intro p e s m below meth c T0 W0 hsf hx hby hml hoZ hnm hret hlk
  have H0 := W0.here; have hz0 := W0.zsize; have hEL := elw hw
  refine Goes.cast (ef2 m a b) ?_
  have la := ltN Ea.lt
  refine G.aloadN H0 hx 1 (hb hby d2_0) rfl rfl rfl ?_
  refine G.aloadN H0 hx 2 (hb hby d2_1) rfl rfl rfl ?_
  refine G.iconst H0 hx 3 (0 : Int32) (hb hby d2_2) rfl rfl ?_
  refine G.aloadN H0 hx 4 (hb hby d2_3) rfl rfl rfl ?_
  refine Wk.arraylength W0 hx Vb 5 (hb hby d2_4) rfl ?_
  refine G.aconstNull H0 hx 6 (hb hby d2_5) rfl ?_
  refine Wk.specialW W0 hx hoZ (y := (⟨"java/lang/String", "<init>", "([CIILjava/lang/Void;)V"⟩ : MethodName)) rfl (wd hw 11 rfl) (wd hw 12 rfl) (wd hw 14 rfl) (by decide) (Wd := 0) (CW.back (rmEm4 l Z a0 hw a b h0 W0.old (by omega) Ea Fv Fc) W0.warm (wd hw 14 rfl) (wd hw 6 rfl) (by decide) (by decide) hEL W0.ch (all1 (by omega)) (ala (hsf a (by simp)) ala0)) a (by rw [hml]; rfl) [(.ref b), (.int (0 : Int32)), (.int (0 : Int32)), .null] [] (lenOf pd0 rfl) rfl rfl (Nat.le_of_eq rfl) 9 (hb hby d2_6) rfl (by decide) (by decide) (hws1 (Or.inl (by simp)) (hsf a (by simp))) ?_
  intro v1 vm1 T1 h1 W1 K1 C1 Q1
  have H1 := W1.here; have z1 := K1.1
  obtain ⟨rfl, Sv1⟩ := Q1
  show Goes p e below (PostW s Z consts_1 h0 [a] (QEm1 Z a b kb h0) ({ frames := 2, cells := 4, slots := 8, locals := 32 } : Room).cells ({ frames := 2, cells := 4, slots := 8, locals := 32 } : Room).slots) (T1.setTop (mkF m 9 #[.val (.ref a), .val (.ref b)] []))
  exact Wk.retVW W1 hx hEL hret hlk (hb hby d2_9) (by decide) (by decide) ⟨rfl, Sv1⟩
def QMk (Z : State) (cz : Int32) (x0 : Int32) (x1 : Int32) (x2 : Int32) (x3 : Int32) (h0 : Heap) : Option Value → Heap → Prop := fun v h => ∃ a : Addr, v = some (.ref a) ∧ h0.size ≤ a ∧ SV Z h a (mkL x0 x1 x2 x3)
set_option maxRecDepth 65536 in
set_option maxHeartbeats 40000000 in
theorem rmMk (l : Launch) (Z : State) (a0 : Array Value) (hw : ∀ d ∈ tables_1, d.before a0 Z = true) (cz : Int32) (x0 : Int32) (x1 : Int32) (x2 : Int32) (x3 : Int32) (h0 : Heap) (O : Ext Z.heap h0) (hCS : Sta Z Z.heap "java/lang/String" "COMPACT_STRINGS" "Z" (.int cz)) (hcz : ¬ cz = 0) (h1 : C8 x1) (h2 : C8 x2) (h3 : C8 x3) :
    CW [] l Z consts_1 (⟨"com/example/ken/ken/collection/TagClosesPinLaw", "str", "(ICCC)Ljava/lang/String;"⟩ : MethodName) method_2_code 4 (Option.some (Jvm.ClassFile.FieldType.object "java/lang/String")) ({ frames := 4, cells := 6, slots := 12, locals := 68 } : Room) #[(.int x0), (.int x1), (.int x2), (.int x3)] h0 [] (QMk Z cz x0 x1 x2 x3 h0) := by
  refine CW.of_walk (plainFor_of_name pn1) O (fun _ q => nomatch q) ?_
  intro p e s m below meth c T0 W0 hsf hx hby hml hoZ hnm hret hlk
  have H0 := W0.here; have hz0 := W0.zsize; have hEL := elw hw
  refine Goes.cast (ef3 m x0 x1 x2 x3) ?_
  refine G.iloadN H0 hx 1 (hb hby d1_0) rfl rfl ?_
  by_cases c1_1 : x0 = 0
  ·
    refine G.ifN H0 hx 4 (hb hby d1_1) (zeq c1_1).2 rfl ?_
    refine Wk.newO W0 hx hoZ (wd hw 4 rfl) (wd hw 5 rfl) (wd hw 6 rfl) 7 (hb hby d1_4) rfl (by decide) (by decide) ?_
    intro T2 h2 a2 W2 E2 g2 A2 D2 S2
    have H2 := W2.here; have z2 := E2.1; have gu2 := Nat.le_of_eq g2; have gt2 := Nat.le_of_eq g2.symm; have l2 := ltN A2.lt
    refine G.dup H2 hx 8 (hb hby d1_7) rfl rfl ?_
    refine G.iconst H2 hx 9 (0 : Int32) (hb hby d1_8) rfl rfl ?_
    refine Wk.newP W2 hx (wd hw 7 rfl) 11 (hb hby d1_9) (by decide) 0 (by decide) rfl (by decide) (by decide) (by decide) ?_
    intro T3 h3 a3 k3 W3 E3 g3 V3 S3
    have H3 := W3.here; have z3 := E3.1; have gu3 := Nat.le_of_eq g3; have gt3 := Nat.le_of_eq g3.symm; have l3 := ltN V3.lt
    have V3 : Arv Z h3 a3 k3 .char (0 : Int32) [] (.int (0 : Int32)) := V3
    refine Wk.specialW W3 hx hoZ (y := (⟨"java/lang/String", "<init>", "([C)V"⟩ : MethodName)) rfl (wd hw 8 rfl) (wd hw 9 rfl) (wd hw 10 rfl) (by decide) (Wd := 1) (CW.back (rmEm1 l Z a0 hw a2 a3 k3 h3 W3.old (by omega) (A2.ext E3) ((D2 (Or.inr (wd hw 20 rfl)) (ty := (.array .byte)) (by decide)).ext E3) ((D2 (Or.inr (wd hw 21 rfl)) (ty := .byte) (by decide)).ext E3) V3) W3.warm (wd hw 10 rfl) (wd hw 6 rfl) (by decide) (by decide) hEL W3.ch (all1 (by omega)) (ala ((CHr.ext E3 W2.ch).safe (ltA (by omega)) S2) ala0)) a2 (by rw [hml]; rfl) [(.ref a3)] [(.ref a2)] (lenOf pd1 rfl) rfl rfl (Nat.le_of_eq rfl) 14 (hb hby d1_11) rfl (by decide) (by decide) (hws1 (Or.inr (by omega)) ((CHr.ext E3 W2.ch).safe (ltA (by omega)) S2)) ?_
    intro v4 vm4 T4 h4 W4 K4 C4 Q4
    have H4 := W4.here; have z4 := K4.1
    obtain ⟨rfl, Sv4⟩ := Q4
    show Goes p e below (PostW s Z consts_1 h0 [] (QMk Z cz x0 x1 x2 x3 h0) ({ frames := 4, cells := 6, slots := 12, locals := 68 } : Room).cells ({ frames := 4, cells := 6, slots := 12, locals := 68 } : Room).slots) (T4.setTop (mkF m 14 #[.val (.int x0), .val (.int x1), .val (.int x2), .val (.int x3)] [(.ref a2)]))
    exact Wk.retAW W4 hx hEL (t := (.object "java/lang/String")) rfl rfl hret hlk (hb hby d1_14) (by decide) (by decide) ⟨_, rfl, by omega, by simpa [mkL, c1_1] using Sv4⟩
  ·
    refine G.ifY H0 hx 15 (hb hby d1_1) (zne c1_1).2 (by decide) rfl ?_
    refine G.iloadN H0 hx 16 (hb hby d1_15) rfl rfl ?_
    refine G.iconst H0 hx 17 (1 : Int32) (hb hby d1_16) rfl rfl ?_
    by_cases c17_5 : x0 = (1 : Int32)
    ·
      refine G.icmpN H0 hx 20 (hb hby d1_17) (teq c17_5).2 rfl ?_
      refine Wk.newO W0 hx hoZ (wd hw 4 rfl) (wd hw 5 rfl) (wd hw 6 rfl) 23 (hb hby d1_20) rfl (by decide) (by decide) ?_
      intro T6 h6 a6 W6 E6 g6 A6 D6 S6
      have H6 := W6.here; have z6 := E6.1; have gu6 := Nat.le_of_eq g6; have gt6 := Nat.le_of_eq g6.symm; have l6 := ltN A6.lt
      refine G.dup H6 hx 24 (hb hby d1_23) rfl rfl ?_
      refine G.iconst H6 hx 25 (1 : Int32) (hb hby d1_24) rfl rfl ?_
      refine Wk.newP W6 hx (wd hw 7 rfl) 27 (hb hby d1_25) (by decide) 1 (by decide) rfl (by decide) (by decide) (by decide) ?_
      intro T7 h7 a7 k7 W7 E7 g7 V7 S7
      have H7 := W7.here; have z7 := E7.1; have gu7 := Nat.le_of_eq g7; have gt7 := Nat.le_of_eq g7.symm; have l7 := ltN V7.lt
      have V7 : Arv Z h7 a7 k7 .char (1 : Int32) [(.int (0 : Int32))] (.int (0 : Int32)) := V7
      refine G.dup H7 hx 28 (hb hby d1_27) rfl rfl ?_
      refine G.iconst H7 hx 29 (0 : Int32) (hb hby d1_28) rfl rfl ?_
      refine G.iloadN H7 hx 30 (hb hby d1_29) rfl rfl ?_
      refine Wk.castore W7 hx V7 (Or.inr (by omega)) x1 (nar_c16 h1.up) 0 rfl ⟨by decide, by decide⟩ (Nat.le_of_ble_eq_true rfl) 31 (hb hby d1_30) rfl ?_
      intro T8 h8 W8 K8 C8 V8; have H8 := W8.here; have z8 := K8.1
      have V8 : Arv Z h8 a7 k7 .char (1 : Int32) [(.int x1)] (.int (0 : Int32)) := V8
      refine Wk.special W8 hx hoZ (y := (⟨"java/lang/String", "<init>", "([C)V"⟩ : MethodName)) rfl (wd hw 8 rfl) (wd hw 9 rfl) (wd hw 10 rfl) (by decide) (Wd := 1) (newS W8.warm (wsNew hw) (wd hw 5 rfl) W8.old (by omega) ((A6.ext E7).keep K8) (((D6 (Or.inr (wd hw 20 rfl)) (ty := (.array .byte)) (by decide)).ext E7).keep K8 (ninS (neA (by omega)) nin0)) (((D6 (Or.inr (wd hw 21 rfl)) (ty := .byte) (by decide)).ext E7).keep K8 (ninS (neA (by omega)) nin0)) (cs := [x1]) V8 hCS hcz 1 rfl rfl (by decide) (by decide) (ala h1 (ala0)) (by decide) (by decide)) a6 (by rw [hml]; rfl) [(.ref a7)] [(.ref a6)] (lenOf pd1 rfl) rfl rfl (Nat.le_of_eq rfl) 34 (hb hby d1_31) rfl (by decide) (by decide) (hws1 (Or.inr (by omega)) (C8.safe (ltA (by omega)) ((CHr.ext E7 W6.ch).safe (ltA (by omega)) S6))) ?_
      intro v9 T9 h9 W9 K9 C9 Q9
      have H9 := W9.here; have z9 := K9.1
      obtain ⟨rfl, Sv9⟩ := Q9
      show Goes p e below (PostW s Z consts_1 h0 [] (QMk Z cz x0 x1 x2 x3 h0) ({ frames := 4, cells := 6, slots := 12, locals := 68 } : Room).cells ({ frames := 4, cells := 6, slots := 12, locals := 68 } : Room).slots) (T9.setTop (mkF m 34 #[.val (.int x0), .val (.int x1), .val (.int x2), .val (.int x3)] [(.ref a6)]))
      exact Wk.retAW W9 hx hEL (t := (.object "java/lang/String")) rfl rfl hret hlk (hb hby d1_34) (by decide) (by decide) ⟨_, rfl, by omega, by simpa [mkL, c1_1, c17_5] using Sv9⟩
    ·
      refine G.icmpY H0 hx 35 (hb hby d1_17) (feq c17_5).2 (by decide) rfl ?_
      refine G.iloadN H0 hx 36 (hb hby d1_35) rfl rfl ?_
      refine G.iconst H0 hx 37 (2 : Int32) (hb hby d1_36) rfl rfl ?_
      by_cases c37_10 : x0 = (2 : Int32)
      ·
        refine G.icmpN H0 hx 40 (hb hby d1_37) (teq c37_10).2 rfl ?_
        refine Wk.newO W0 hx hoZ (wd hw 4 rfl) (wd hw 5 rfl) (wd hw 6 rfl) 43 (hb hby d1_40) rfl (by decide) (by decide) ?_
        intro T11 h11 a11 W11 E11 g11 A11 D11 S11
        have H11 := W11.here; have z11 := E11.1; have gu11 := Nat.le_of_eq g11; have gt11 := Nat.le_of_eq g11.symm; have l11 := ltN A11.lt
        refine G.dup H11 hx 44 (hb hby d1_43) rfl rfl ?_
        refine G.iconst H11 hx 45 (2 : Int32) (hb hby d1_44) rfl rfl ?_
        refine Wk.newP W11 hx (wd hw 7 rfl) 47 (hb hby d1_45) (by decide) 2 (by decide) rfl (by decide) (by decide) (by decide) ?_
        intro T12 h12 a12 k12 W12 E12 g12 V12 S12
        have H12 := W12.here; have z12 := E12.1; have gu12 := Nat.le_of_eq g12; have gt12 := Nat.le_of_eq g12.symm; have l12 := ltN V12.lt
        have V12 : Arv Z h12 a12 k12 .char (2 : Int32) [(.int (0 : Int32)), (.int (0 : Int32))] (.int (0 : Int32)) := V12
        refine G.dup H12 hx 48 (hb hby d1_47) rfl rfl ?_
        refine G.iconst H12 hx 49 (0 : Int32) (hb hby d1_48) rfl rfl ?_
        refine G.iloadN H12 hx 50 (hb hby d1_49) rfl rfl ?_
        refine Wk.castore W12 hx V12 (Or.inr (by omega)) x1 (nar_c16 h1.up) 0 rfl ⟨by decide, by decide⟩ (Nat.le_of_ble_eq_true rfl) 51 (hb hby d1_50) rfl ?_
        intro T13 h13 W13 K13 C13 V13; have H13 := W13.here; have z13 := K13.1
        have V13 : Arv Z h13 a12 k12 .char (2 : Int32) [(.int x1), (.int (0 : Int32))] (.int (0 : Int32)) := V13
        refine G.dup H13 hx 52 (hb hby d1_51) rfl rfl ?_
        refine G.iconst H13 hx 53 (1 : Int32) (hb hby d1_52) rfl rfl ?_
        refine G.iloadN H13 hx 54 (hb hby d1_53) rfl rfl ?_
        refine Wk.castore W13 hx V13 (Or.inr (by omega)) x2 (nar_c16 h2.up) 1 rfl ⟨by decide, by decide⟩ (Nat.le_of_ble_eq_true rfl) 55 (hb hby d1_54) rfl ?_
        intro T14 h14 W14 K14 C14 V14; have H14 := W14.here; have z14 := K14.1
        have V14 : Arv Z h14 a12 k12 .char (2 : Int32) [(.int x1), (.int x2)] (.int (0 : Int32)) := V14
        refine Wk.special W14 hx hoZ (y := (⟨"java/lang/String", "<init>", "([C)V"⟩ : MethodName)) rfl (wd hw 8 rfl) (wd hw 9 rfl) (wd hw 10 rfl) (by decide) (Wd := 1) (newS W14.warm (wsNew hw) (wd hw 5 rfl) W14.old (by omega) (((A11.ext E12).keep K13).keep K14) ((((D11 (Or.inr (wd hw 20 rfl)) (ty := (.array .byte)) (by decide)).ext E12).keep K13 (ninS (neA (by omega)) nin0)).keep K14 (ninS (neA (by omega)) nin0)) ((((D11 (Or.inr (wd hw 21 rfl)) (ty := .byte) (by decide)).ext E12).keep K13 (ninS (neA (by omega)) nin0)).keep K14 (ninS (neA (by omega)) nin0)) (cs := [x1, x2]) V14 hCS hcz 2 rfl rfl (by decide) (by decide) (ala h1 (ala h2 (ala0))) (by decide) (by decide)) a11 (by rw [hml]; rfl) [(.ref a12)] [(.ref a11)] (lenOf pd1 rfl) rfl rfl (Nat.le_of_eq rfl) 58 (hb hby d1_55) rfl (by decide) (by decide) (hws1 (Or.inr (by omega)) (C14.safe (ltA (by omega)) (C13.safe (ltA (by omega)) ((CHr.ext E12 W11.ch).safe (ltA (by omega)) S11)))) ?_
        intro v15 T15 h15 W15 K15 C15 Q15
        have H15 := W15.here; have z15 := K15.1
        obtain ⟨rfl, Sv15⟩ := Q15
        show Goes p e below (PostW s Z consts_1 h0 [] (QMk Z cz x0 x1 x2 x3 h0) ({ frames := 4, cells := 6, slots := 12, locals := 68 } : Room).cells ({ frames := 4, cells := 6, slots := 12, locals := 68 } : Room).slots) (T15.setTop (mkF m 58 #[.val (.int x0), .val (.int x1), .val (.int x2), .val (.int x3)] [(.ref a11)]))
        exact Wk.retAW W15 hx hEL (t := (.object "java/lang/String")) rfl rfl hret hlk (hb hby d1_58) (by decide) (by decide) ⟨_, rfl, by omega, by simpa [mkL, c1_1, c17_5, c37_10] using Sv15⟩
      ·
        refine G.icmpY H0 hx 59 (hb hby d1_37) (feq c37_10).2 (by decide) rfl ?_
        refine Wk.newO W0 hx hoZ (wd hw 4 rfl) (wd hw 5 rfl) (wd hw 6 rfl) 62 (hb hby d1_59) rfl (by decide) (by decide) ?_
        intro T16 h16 a16 W16 E16 g16 A16 D16 S16
        have H16 := W16.here; have z16 := E16.1; have gu16 := Nat.le_of_eq g16; have gt16 := Nat.le_of_eq g16.symm; have l16 := ltN A16.lt
        refine G.dup H16 hx 63 (hb hby d1_62) rfl rfl ?_
        refine G.iconst H16 hx 64 (3 : Int32) (hb hby d1_63) rfl rfl ?_
        refine Wk.newP W16 hx (wd hw 7 rfl) 66 (hb hby d1_64) (by decide) 3 (by decide) rfl (by decide) (by decide) (by decide) ?_
        intro T17 h17 a17 k17 W17 E17 g17 V17 S17
        have H17 := W17.here; have z17 := E17.1; have gu17 := Nat.le_of_eq g17; have gt17 := Nat.le_of_eq g17.symm; have l17 := ltN V17.lt
        have V17 : Arv Z h17 a17 k17 .char (3 : Int32) [(.int (0 : Int32)), (.int (0 : Int32)), (.int (0 : Int32))] (.int (0 : Int32)) := V17
        refine G.dup H17 hx 67 (hb hby d1_66) rfl rfl ?_
        refine G.iconst H17 hx 68 (0 : Int32) (hb hby d1_67) rfl rfl ?_
        refine G.iloadN H17 hx 69 (hb hby d1_68) rfl rfl ?_
        refine Wk.castore W17 hx V17 (Or.inr (by omega)) x1 (nar_c16 h1.up) 0 rfl ⟨by decide, by decide⟩ (Nat.le_of_ble_eq_true rfl) 70 (hb hby d1_69) rfl ?_
        intro T18 h18 W18 K18 C18 V18; have H18 := W18.here; have z18 := K18.1
        have V18 : Arv Z h18 a17 k17 .char (3 : Int32) [(.int x1), (.int (0 : Int32)), (.int (0 : Int32))] (.int (0 : Int32)) := V18
        refine G.dup H18 hx 71 (hb hby d1_70) rfl rfl ?_
        refine G.iconst H18 hx 72 (1 : Int32) (hb hby d1_71) rfl rfl ?_
        refine G.iloadN H18 hx 73 (hb hby d1_72) rfl rfl ?_
        refine Wk.castore W18 hx V18 (Or.inr (by omega)) x2 (nar_c16 h2.up) 1 rfl ⟨by decide, by decide⟩ (Nat.le_of_ble_eq_true rfl) 74 (hb hby d1_73) rfl ?_
        intro T19 h19 W19 K19 C19 V19; have H19 := W19.here; have z19 := K19.1
        have V19 : Arv Z h19 a17 k17 .char (3 : Int32) [(.int x1), (.int x2), (.int (0 : Int32))] (.int (0 : Int32)) := V19
        refine G.dup H19 hx 75 (hb hby d1_74) rfl rfl ?_
        refine G.iconst H19 hx 76 (2 : Int32) (hb hby d1_75) rfl rfl ?_
        refine G.iloadN H19 hx 77 (hb hby d1_76) rfl rfl ?_
        refine Wk.castore W19 hx V19 (Or.inr (by omega)) x3 (nar_c16 h3.up) 2 rfl ⟨by decide, by decide⟩ (Nat.le_of_ble_eq_true rfl) 78 (hb hby d1_77) rfl ?_
        intro T20 h20 W20 K20 C20 V20; have H20 := W20.here; have z20 := K20.1
        have V20 : Arv Z h20 a17 k17 .char (3 : Int32) [(.int x1), (.int x2), (.int x3)] (.int (0 : Int32)) := V20
        refine Wk.special W20 hx hoZ (y := (⟨"java/lang/String", "<init>", "([C)V"⟩ : MethodName)) rfl (wd hw 8 rfl) (wd hw 9 rfl) (wd hw 10 rfl) (by decide) (Wd := 1) (newS W20.warm (wsNew hw) (wd hw 5 rfl) W20.old (by omega) ((((A16.ext E17).keep K18).keep K19).keep K20) (((((D16 (Or.inr (wd hw 20 rfl)) (ty := (.array .byte)) (by decide)).ext E17).keep K18 (ninS (neA (by omega)) nin0)).keep K19 (ninS (neA (by omega)) nin0)).keep K20 (ninS (neA (by omega)) nin0)) (((((D16 (Or.inr (wd hw 21 rfl)) (ty := .byte) (by decide)).ext E17).keep K18 (ninS (neA (by omega)) nin0)).keep K19 (ninS (neA (by omega)) nin0)).keep K20 (ninS (neA (by omega)) nin0)) (cs := [x1, x2, x3]) V20 hCS hcz 3 rfl rfl (by decide) (by decide) (ala h1 (ala h2 (ala h3 (ala0)))) (by decide) (by decide)) a16 (by rw [hml]; rfl) [(.ref a17)] [(.ref a16)] (lenOf pd1 rfl) rfl rfl (Nat.le_of_eq rfl) 81 (hb hby d1_78) rfl (by decide) (by decide) (hws1 (Or.inr (by omega)) (C20.safe (ltA (by omega)) (C19.safe (ltA (by omega)) (C18.safe (ltA (by omega)) ((CHr.ext E17 W16.ch).safe (ltA (by omega)) S16))))) ?_
        intro v21 T21 h21 W21 K21 C21 Q21
        have H21 := W21.here; have z21 := K21.1
        obtain ⟨rfl, Sv21⟩ := Q21
        show Goes p e below (PostW s Z consts_1 h0 [] (QMk Z cz x0 x1 x2 x3 h0) ({ frames := 4, cells := 6, slots := 12, locals := 68 } : Room).cells ({ frames := 4, cells := 6, slots := 12, locals := 68 } : Room).slots) (T21.setTop (mkF m 81 #[.val (.int x0), .val (.int x1), .val (.int x2), .val (.int x3)] [(.ref a16)]))
        exact Wk.retAW W21 hx hEL (t := (.object "java/lang/String")) rfl rfl hret hlk (hb hby d1_81) (by decide) (by decide) ⟨_, rfl, by omega, by simpa [mkL, c1_1, c17_5, c37_10] using Sv21⟩
def QTin (Z : State) (a : Addr) (x0 : Value) (x1 : Int32) (x2 : Int32) (x3 : Int32) (x4 : Int32) (h0 : Heap) : Option Value → Heap → Prop := fun v h => v = none ∧ Exa Z h a "com/example/ken/ken/collection/TagScanner$Tag" ∧ Fld Z h a "com/example/ken/ken/collection/TagScanner$Tag" "name" "Ljava/lang/String;" x0 ∧ Fld Z h a "com/example/ken/ken/collection/TagScanner$Tag" "closing" "Z" (.int x1) ∧ Fld Z h a "com/example/ken/ken/collection/TagScanner$Tag" "empty" "Z" (.int x2) ∧ Fld Z h a "com/example/ken/ken/collection/TagScanner$Tag" "line" "I" (.int x3) ∧ Fld Z h a "com/example/ken/ken/collection/TagScanner$Tag" "start" "I" (.int x4)
set_option maxRecDepth 65536 in
set_option maxHeartbeats 40000000 in
theorem rmTin (l : Launch) (Z : State) (a0 : Array Value) (hw : ∀ d ∈ tables_1, d.before a0 Z = true) (a : Addr) (x0 : Value) (x1 : Int32) (x2 : Int32) (x3 : Int32) (x4 : Int32) (h0 : Heap) (O : Ext Z.heap h0) (gz_a : Z.heap.size ≤ a) (Ea : Exa Z h0 a "com/example/ken/ken/collection/TagScanner$Tag") (hr0 : x0.isRef = true) (hb1 : x1 = 0 ∨ x1 = 1) (hb2 : x2 = 0 ∨ x2 = 1) (F_name : Fld Z h0 a "com/example/ken/ken/collection/TagScanner$Tag" "name" "Ljava/lang/String;" .null) (F_closing : Fld Z h0 a "com/example/ken/ken/collection/TagScanner$Tag" "closing" "Z" (.int 0)) (F_empty : Fld Z h0 a "com/example/ken/ken/collection/TagScanner$Tag" "empty" "Z" (.int 0)) (F_line : Fld Z h0 a "com/example/ken/ken/collection/TagScanner$Tag" "line" "I" (.int 0)) (F_start : Fld Z h0 a "com/example/ken/ken/collection/TagScanner$Tag" "start" "I" (.int 0)) :
    CN [] l Z (⟨"com/example/ken/ken/collection/TagScanner$Tag", "<init>", "(Ljava/lang/String;ZZII)V"⟩ : MethodName) prog_16_method_1_code 6 (Option.none : Option Jvm.ClassFile.FieldType) ({ frames := 2, cells := 0, slots := 0, locals := 30 } : Room) #[(.ref a), x0, (.int x1), (.int x2), (.int x3), (.int x4)] h0 [a] (QTin Z a x0 x1 x2 x3 x4 h0) := by
  refine CN.of_walk (plainFor_of_name pn2) O (ala gz_a ala0) ?_
  intro p e s m below meth c T0 W0 hx hby hml hoZ hnm hret hlk
  have H0 := W0.here; have hz0 := W0.zsize
  refine Goes.cast (ef4 m a x0 (cat_ref hr0) x1 x2 x3 x4) ?_
  refine G.aloadN H0 hx 1 (hb hby d5_0) rfl rfl rfl ?_
  refine Wk.initO W0 hx hoZ (wd hw 32 rfl) (wd hw 16 rfl) (wd hw 17 rfl) (by rw [hml]; rfl) 4 (hb hby d5_1) rfl (by decide) 0 (Nat.le_of_eq rfl) (by decide) ?_
  intro T1 W1; have H1 := W1.here
  refine G.aloadN H1 hx 5 (hb hby d5_4) rfl rfl rfl ?_
  refine G.aloadN H1 hx 6 (hb hby d5_5) rfl hr0 rfl ?_
  refine Wk.putF W1 hx hoZ (wd hw 33 rfl) Via.refl x0 F_name Ea (Or.inr ⟨(wd hw 34 rfl), rfl, hnm⟩) (wd hw 27 rfl) (ty := (.object "java/lang/String")) (by decide) (ref_nar rfl hr0).1 (ref_nar rfl hr0).2 (Or.inl (by simp)) safe0 9 (hb hby d5_6) rfl ?_
  intro T2 h2 W2 R2 C2; have H2 := W2.here; have z2 := R2.size
  have F2 := (F_name).same R2
  refine G.aloadN H2 hx 10 (hb hby d5_9) rfl rfl rfl ?_
  refine G.iloadN H2 hx 11 (hb hby d5_10) rfl rfl ?_
  refine Wk.putF W2 hx hoZ (wd hw 35 rfl) Via.refl (.int x1) (F_closing.other R2 (Or.inr (slot_ne (Or.inr (wd hw 36 rfl)) (Or.inr (wd hw 34 rfl)) (by decide) (t := .boolean) (t' := (.object "java/lang/String")) (by decide) (by decide)))) (Ea.wr R2) (Or.inr ⟨(wd hw 36 rfl), rfl, hnm⟩) (wd hw 27 rfl) (ty := .boolean) (by decide) (bool_nar hb1).1 (bool_nar hb1).2 (Or.inl (by simp)) safe0 14 (hb hby d5_11) rfl ?_
  intro T3 h3 W3 R3 C3; have H3 := W3.here; have z3 := R3.size
  have F3 := ((F_closing.other R2 (Or.inr (slot_ne (Or.inr (wd hw 36 rfl)) (Or.inr (wd hw 34 rfl)) (by decide) (t := .boolean) (t' := (.object "java/lang/String")) (by decide) (by decide))))).same R3
  refine G.aloadN H3 hx 15 (hb hby d5_14) rfl rfl rfl ?_
  refine G.iloadN H3 hx 16 (hb hby d5_15) rfl rfl ?_
  refine Wk.putF W3 hx hoZ (wd hw 37 rfl) Via.refl (.int x2) ((F_empty.other R2 (Or.inr (slot_ne (Or.inr (wd hw 38 rfl)) (Or.inr (wd hw 34 rfl)) (by decide) (t := .boolean) (t' := (.object "java/lang/String")) (by decide) (by decide)))).other R3 (Or.inr (slot_ne (Or.inr (wd hw 38 rfl)) (Or.inr (wd hw 36 rfl)) (by decide) (t := .boolean) (t' := .boolean) (by decide) (by decide)))) ((Ea.wr R2).wr R3) (Or.inr ⟨(wd hw 38 rfl), rfl, hnm⟩) (wd hw 27 rfl) (ty := .boolean) (by decide) (bool_nar hb2).1 (bool_nar hb2).2 (Or.inl (by simp)) safe0 19 (hb hby d5_16) rfl ?_
  intro T4 h4 W4 R4 C4; have H4 := W4.here; have z4 := R4.size
  have F4 := (((F_empty.other R2 (Or.inr (slot_ne (Or.inr (wd hw 38 rfl)) (Or.inr (wd hw 34 rfl)) (by decide) (t := .boolean) (t' := (.object "java/lang/String")) (by decide) (by decide)))).other R3 (Or.inr (slot_ne (Or.inr (wd hw 38 rfl)) (Or.inr (wd hw 36 rfl)) (by decide) (t := .boolean) (t' := .boolean) (by decide) (by decide))))).same R4
  refine G.aloadN H4 hx 20 (hb hby d5_19) rfl rfl rfl ?_
  refine G.iload H4 hx 22 (hb hby d5_20) rfl rfl ?_
  refine Wk.putF W4 hx hoZ (wd hw 39 rfl) Via.refl (.int x3) (((F_line.other R2 (Or.inr (slot_ne (Or.inr (wd hw 40 rfl)) (Or.inr (wd hw 34 rfl)) (by decide) (t := .int) (t' := (.object "java/lang/String")) (by decide) (by decide)))).other R3 (Or.inr (slot_ne (Or.inr (wd hw 40 rfl)) (Or.inr (wd hw 36 rfl)) (by decide) (t := .int) (t' := .boolean) (by decide) (by decide)))).other R4 (Or.inr (slot_ne (Or.inr (wd hw 40 rfl)) (Or.inr (wd hw 38 rfl)) (by decide) (t := .int) (t' := .boolean) (by decide) (by decide)))) (((Ea.wr R2).wr R3).wr R4) (Or.inr ⟨(wd hw 40 rfl), rfl, hnm⟩) (wd hw 27 rfl) (ty := .int) (by decide) rfl rfl (Or.inl (by simp)) safe0 25 (hb hby d5_22) rfl ?_
  intro T5 h5 W5 R5 C5; have H5 := W5.here; have z5 := R5.size
  have F5 := ((((F_line.other R2 (Or.inr (slot_ne (Or.inr (wd hw 40 rfl)) (Or.inr (wd hw 34 rfl)) (by decide) (t := .int) (t' := (.object "java/lang/String")) (by decide) (by decide)))).other R3 (Or.inr (slot_ne (Or.inr (wd hw 40 rfl)) (Or.inr (wd hw 36 rfl)) (by decide) (t := .int) (t' := .boolean) (by decide) (by decide)))).other R4 (Or.inr (slot_ne (Or.inr (wd hw 40 rfl)) (Or.inr (wd hw 38 rfl)) (by decide) (t := .int) (t' := .boolean) (by decide) (by decide))))).same R5
  refine G.aloadN H5 hx 26 (hb hby d5_25) rfl rfl rfl ?_
  refine G.iload H5 hx 28 (hb hby d5_26) rfl rfl ?_
  refine Wk.putF W5 hx hoZ (wd hw 41 rfl) Via.refl (.int x4) ((((F_start.other R2 (Or.inr (slot_ne (Or.inr (wd hw 42 rfl)) (Or.inr (wd hw 34 rfl)) (by decide) (t := .int) (t' := (.object "java/lang/String")) (by decide) (by decide)))).other R3 (Or.inr (slot_ne (Or.inr (wd hw 42 rfl)) (Or.inr (wd hw 36 rfl)) (by decide) (t := .int) (t' := .boolean) (by decide) (by decide)))).other R4 (Or.inr (slot_ne (Or.inr (wd hw 42 rfl)) (Or.inr (wd hw 38 rfl)) (by decide) (t := .int) (t' := .boolean) (by decide) (by decide)))).other R5 (Or.inr (slot_ne (Or.inr (wd hw 42 rfl)) (Or.inr (wd hw 40 rfl)) (by decide) (t := .int) (t' := .int) (by decide) (by decide)))) ((((Ea.wr R2).wr R3).wr R4).wr R5) (Or.inr ⟨(wd hw 42 rfl), rfl, hnm⟩) (wd hw 27 rfl) (ty := .int) (by decide) rfl rfl (Or.inl (by simp)) safe0 31 (hb hby d5_28) rfl ?_
  intro T6 h6 W6 R6 C6; have H6 := W6.here; have z6 := R6.size
  have F6 := (((((F_start.other R2 (Or.inr (slot_ne (Or.inr (wd hw 42 rfl)) (Or.inr (wd hw 34 rfl)) (by decide) (t := .int) (t' := (.object "java/lang/String")) (by decide) (by decide)))).other R3 (Or.inr (slot_ne (Or.inr (wd hw 42 rfl)) (Or.inr (wd hw 36 rfl)) (by decide) (t := .int) (t' := .boolean) (by decide) (by decide)))).other R4 (Or.inr (slot_ne (Or.inr (wd hw 42 rfl)) (Or.inr (wd hw 38 rfl)) (by decide) (t := .int) (t' := .boolean) (by decide) (by decide)))).other R5 (Or.inr (slot_ne (Or.inr (wd hw 42 rfl)) (Or.inr (wd hw 40 rfl)) (by decide) (t := .int) (t' := .int) (by decide) (by decide))))).same R6
  exact Wk.retV W6 hx hret hlk (hb hby d5_31) (by decide) (by decide) ⟨rfl, (((((Ea.wr R2).wr R3).wr R4).wr R5).wr R6), ((((F2.other R3 (Or.inr (slot_ne (Or.inr (wd hw 34 rfl)) (Or.inr (wd hw 36 rfl)) (by decide) (t := (.object "java/lang/String")) (t' := .boolean) (by decide) (by decide)))).other R4 (Or.inr (slot_ne (Or.inr (wd hw 34 rfl)) (Or.inr (wd hw 38 rfl)) (by decide) (t := (.object "java/lang/String")) (t' := .boolean) (by decide) (by decide)))).other R5 (Or.inr (slot_ne (Or.inr (wd hw 34 rfl)) (Or.inr (wd hw 40 rfl)) (by decide) (t := (.object "java/lang/String")) (t' := .int) (by decide) (by decide)))).other R6 (Or.inr (slot_ne (Or.inr (wd hw 34 rfl)) (Or.inr (wd hw 42 rfl)) (by decide) (t := (.object "java/lang/String")) (t' := .int) (by decide) (by decide)))), (((F3.other R4 (Or.inr (slot_ne (Or.inr (wd hw 36 rfl)) (Or.inr (wd hw 38 rfl)) (by decide) (t := .boolean) (t' := .boolean) (by decide) (by decide)))).other R5 (Or.inr (slot_ne (Or.inr (wd hw 36 rfl)) (Or.inr (wd hw 40 rfl)) (by decide) (t := .boolean) (t' := .int) (by decide) (by decide)))).other R6 (Or.inr (slot_ne (Or.inr (wd hw 36 rfl)) (Or.inr (wd hw 42 rfl)) (by decide) (t := .boolean) (t' := .int) (by decide) (by decide)))), ((F4.other R5 (Or.inr (slot_ne (Or.inr (wd hw 38 rfl)) (Or.inr (wd hw 40 rfl)) (by decide) (t := .boolean) (t' := .int) (by decide) (by decide)))).other R6 (Or.inr (slot_ne (Or.inr (wd hw 38 rfl)) (Or.inr (wd hw 42 rfl)) (by decide) (t := .boolean) (t' := .int) (by decide) (by decide)))), (F5.other R6 (Or.inr (slot_ne (Or.inr (wd hw 40 rfl)) (Or.inr (wd hw 42 rfl)) (by decide) (t := .int) (t' := .int) (by decide) (by decide)))), F6⟩
def QOpS (Z : State) (cz : Int32) (a : Addr) (el : Addr) (nm : Addr) (cl : Int32) (cs : List Int32) (ds : List Int32) (h0 : Heap) : Option Value → Heap → Prop := fun v h => v = some (.int (if ¬ cl = 0 ∧ cs = ds then (1 : Int32) else (0 : Int32)))
set_option maxRecDepth 65536 in
set_option maxHeartbeats 40000000 in
theorem rmOpS (l : Launch) (Z : State) (a0 : Array Value) (hw : ∀ d ∈ tables_1, d.before a0 Z = true) (cz : Int32) (a : Addr) (el : Addr) (nm : Addr) (cl : Int32) (cs : List Int32) (ds : List Int32) (h0 : Heap) (O : Ext Z.heap h0) (hCS : Sta Z Z.heap "java/lang/String" "COMPACT_STRINGS" "Z" (.int cz)) (hcz : ¬ cz = 0) (Ea : Exa Z h0 a "com/example/ken/ken/collection/TagScanner$Tag") (Fc : Fld Z h0 a "com/example/ken/ken/collection/TagScanner$Tag" "closing" "Z" (.int cl)) (Fn : Fld Z h0 a "com/example/ken/ken/collection/TagScanner$Tag" "name" "Ljava/lang/String;" (.ref nm)) (Sn : SV Z h0 nm cs) (Se : SV Z h0 el ds) :
    CN [] l Z (⟨"com/example/ken/ken/collection/TagScanner$Tag", "closes", "(Ljava/lang/String;)Z"⟩ : MethodName) prog_16_method_8_code 2 (Option.some Jvm.ClassFile.FieldType.boolean) ({ frames := 3, cells := 0, slots := 0, locals := 45 } : Room) #[(.ref a), (.ref el)] h0 [] (QOpS Z cz a el nm cl cs ds h0) := by
  refine CN.of_walk (plainFor_of_name pn2) O (fun _ q => nomatch q) ?_
  intro p e s m below meth c T0 W0 hx hby hml hoZ hnm hret hlk
  have H0 := W0.here; have hz0 := W0.zsize
  refine Goes.cast (ef2 m a el) ?_
  refine G.aloadN H0 hx 1 (hb hby d6_0) rfl rfl rfl ?_
  refine Wk.getF W0 hx hoZ (host := "") (Or.inl (wd hw 35 rfl)) Via.refl Fc 4 (hb hby d6_1) rfl ?_
  intro T1 W1; have H1 := W1.here
  by_cases c4_2 : cl = 0
  ·
    refine G.ifY H1 hx 22 (hb hby d6_4) (zeq c4_2).1 (by decide) rfl ?_
    refine G.iconst H1 hx 23 (0 : Int32) (hb hby d6_22) rfl rfl ?_
    exact Wk.retN W1 hx (0 : Int32) (t := .boolean) rfl (by simp) hret hlk (hb hby d6_23) (by decide) (by decide) (by unfold QOpS; simp [c4_2])
  ·
    refine G.ifN H1 hx 7 (hb hby d6_4) (zne c4_2).1 rfl ?_
    refine G.aloadN H1 hx 8 (hb hby d6_7) rfl rfl rfl ?_
    refine Wk.getF W1 hx hoZ (host := "") (Or.inl (wd hw 33 rfl)) Via.refl Fn 11 (hb hby d6_8) rfl ?_
    intro T3 W3; have H3 := W3.here
    refine G.aloadN H3 hx 12 (hb hby d6_11) rfl rfl rfl ?_
    refine Wk.virtual W3 hx hoZ (y := (⟨"java/lang/String", "equals", "(Ljava/lang/Object;)Z"⟩ : MethodName)) (z := (⟨"java/lang/String", "equals", "(Ljava/lang/Object;)Z"⟩ : MethodName)) (wd hw 48 rfl) (wd hw 49 rfl) (wd hw 51 rfl) (wd hw 50 rfl) (W3.nf (wd hw 51 rfl)) (by decide) (Wd := 0) (eqS W3.warm (wsEq hw) (wd hw 5 rfl) W3.old Sn Se hCS hcz (by decide) (by decide)) Sn.exa (by rw [hml]; rfl) [(.ref el)] [] (lenOf pd2 rfl) rfl rfl (Nat.le_of_eq rfl) 15 (hb hby d6_12) rfl (by decide) (by decide) (fun _ q => nomatch q) ?_
    intro v4 T4 h4 W4 K4 C4 Q4
    have H4 := W4.here; have z4 := K4.1
    obtain ⟨rfl, eh4⟩ := Q4
    show Goes p e below (PostN s Z h0 [] (QOpS Z cz a el nm cl cs ds h0) ({ frames := 3, cells := 0, slots := 0, locals := 45 } : Room).cells ({ frames := 3, cells := 0, slots := 0, locals := 45 } : Room).slots) (T4.setTop (mkF m 15 #[.val (.ref a), .val (.ref el)] [(.int (if cs = ds then (1 : Int32) else (0 : Int32)))]))
    have J23_6 : ∀ (b5 : Int32) (hb5 : b5 = (if (if cs = ds then (1 : Int32) else (0 : Int32)) = 0 then (0 : Int32) else (1 : Int32))), Goes p e below (PostN s Z h0 [] (QOpS Z cz a el nm cl cs ds h0) ({ frames := 3, cells := 0, slots := 0, locals := 45 } : Room).cells ({ frames := 3, cells := 0, slots := 0, locals := 45 } : Room).slots) (T4.setTop (mkF m 23 #[.val (.ref a), .val (.ref el)] [(.int b5)])) := by
      intro b5 hb5
      exact Wk.retN W4 hx b5 (t := .boolean) (by rw [hb5]; repeat' (first | rfl | split)) (by simp) hret hlk (hb hby d6_23) (by decide) (by decide) (by unfold QOpS; rw [hb5]; by_cases qq : cs = ds <;> simp [qq, c4_2])
    by_cases c15_7 : (if cs = ds then (1 : Int32) else (0 : Int32)) = 0
    ·
      refine G.ifY H4 hx 22 (hb hby d6_15) (zeq c15_7).1 (by decide) rfl ?_
      refine G.iconst H4 hx 23 (0 : Int32) (hb hby d6_22) rfl rfl ?_
      exact J23_6 _ (by simp only [if_pos c15_7])
    ·
      refine G.ifN H4 hx 18 (hb hby d6_15) (zne c15_7).1 rfl ?_
      refine G.iconst H4 hx 19 (1 : Int32) (hb hby d6_18) rfl rfl ?_
      refine G.goto H4 hx 23 (hb hby d6_19) (by decide) rfl ?_
      exact J23_6 _ (by simp only [if_neg c15_7])
def QOpN (Z : State) (a : Addr) (nm : Addr) (cl : Int32) (cs : List Int32) (h0 : Heap) : Option Value → Heap → Prop := fun v h => v = some (.int 0)
set_option maxRecDepth 65536 in
set_option maxHeartbeats 40000000 in
theorem rmOpN (l : Launch) (Z : State) (a0 : Array Value) (hw : ∀ d ∈ tables_1, d.before a0 Z = true) (a : Addr) (nm : Addr) (cl : Int32) (cs : List Int32) (h0 : Heap) (O : Ext Z.heap h0) (Ea : Exa Z h0 a "com/example/ken/ken/collection/TagScanner$Tag") (Fc : Fld Z h0 a "com/example/ken/ken/collection/TagScanner$Tag" "closing" "Z" (.int cl)) (Fn : Fld Z h0 a "com/example/ken/ken/collection/TagScanner$Tag" "name" "Ljava/lang/String;" (.ref nm)) (Sn : SV Z h0 nm cs) :
    CN [] l Z (⟨"com/example/ken/ken/collection/TagScanner$Tag", "closes", "(Ljava/lang/String;)Z"⟩ : MethodName) prog_16_method_8_code 2 (Option.some Jvm.ClassFile.FieldType.boolean) ({ frames := 3, cells := 0, slots := 0, locals := 45 } : Room) #[(.ref a), .null] h0 [] (QOpN Z a nm cl cs h0) := by
  refine CN.of_walk (plainFor_of_name pn2) O (fun _ q => nomatch q) ?_
  intro p e s m below meth c T0 W0 hx hby hml hoZ hnm hret hlk
  have H0 := W0.here; have hz0 := W0.zsize
  refine Goes.cast (ef5 m a) ?_
  refine G.aloadN H0 hx 1 (hb hby d6_0) rfl rfl rfl ?_
  refine Wk.getF W0 hx hoZ (host := "") (Or.inl (wd hw 35 rfl)) Via.refl Fc 4 (hb hby d6_1) rfl ?_
  intro T1 W1; have H1 := W1.here
  by_cases c4_2 : cl = 0
  ·
    refine G.ifY H1 hx 22 (hb hby d6_4) (zeq c4_2).1 (by decide) rfl ?_
    refine G.iconst H1 hx 23 (0 : Int32) (hb hby d6_22) rfl rfl ?_
    exact Wk.retN W1 hx (0 : Int32) (t := .boolean) rfl (by simp) hret hlk (hb hby d6_23) (by decide) (by decide) rfl
  ·
    refine G.ifN H1 hx 7 (hb hby d6_4) (zne c4_2).1 rfl ?_
    refine G.aloadN H1 hx 8 (hb hby d6_7) rfl rfl rfl ?_
    refine Wk.getF W1 hx hoZ (host := "") (Or.inl (wd hw 33 rfl)) Via.refl Fn 11 (hb hby d6_8) rfl ?_
    intro T3 W3; have H3 := W3.here
    refine G.aloadN H3 hx 12 (hb hby d6_11) rfl rfl rfl ?_
    refine Wk.virtual W3 hx hoZ (y := (⟨"java/lang/String", "equals", "(Ljava/lang/Object;)Z"⟩ : MethodName)) (z := (⟨"java/lang/String", "equals", "(Ljava/lang/Object;)Z"⟩ : MethodName)) (wd hw 48 rfl) (wd hw 49 rfl) (wd hw 51 rfl) (wd hw 50 rfl) (W3.nf (wd hw 51 rfl)) (by decide) (Wd := 0) (CN.back (rmEqN l Z a0 hw nm h0 W3.old ) W3.warm (wd hw 52 rfl) (wd hw 6 rfl) (by decide) (by decide)) Sn.exa (by rw [hml]; rfl) [.null] [] (lenOf pd2 rfl) rfl rfl (Nat.le_of_eq rfl) 15 (hb hby d6_12) rfl (by decide) (by decide) (fun _ q => nomatch q) ?_
    intro v4 T4 h4 W4 K4 C4 Q4
    have H4 := W4.here; have z4 := K4.1
    obtain ⟨rfl, eh4⟩ := Q4
    show Goes p e below (PostN s Z h0 [] (QOpN Z a nm cl cs h0) ({ frames := 3, cells := 0, slots := 0, locals := 45 } : Room).cells ({ frames := 3, cells := 0, slots := 0, locals := 45 } : Room).slots) (T4.setTop (mkF m 15 #[.val (.ref a), .val .null] [(.int (0 : Int32))]))
    refine G.ifY H4 hx 22 (hb hby d6_15) (zeq (by decide)).1 (by decide) rfl ?_
    refine G.iconst H4 hx 23 (0 : Int32) (hb hby d6_22) rfl rfl ?_
    exact Wk.retN W4 hx (0 : Int32) (t := .boolean) rfl (by simp) hret hlk (hb hby d6_23) (by decide) (by decide) rfl
def Q0 (Z : State) (cz : Int32) (p0 : Int32) (p1 : Int32) (p2 : Int32) (p3 : Int32) (p4 : Int32) (h0 : Heap) : Option Value → Heap → Prop := fun v h => v = some (.int 1)
set_option maxRecDepth 65536 in
set_option maxHeartbeats 40000000 in
theorem rm0 (l : Launch) (Z : State) (a0 : Array Value) (hw : ∀ d ∈ tables_1, d.before a0 Z = true) (cz : Int32) (p0 : Int32) (p1 : Int32) (p2 : Int32) (p3 : Int32) (p4 : Int32) (h0 : Heap) (O : Ext Z.heap h0) (hCS : Sta Z Z.heap "java/lang/String" "COMPACT_STRINGS" "Z" (.int cz)) (hcz : ¬ cz = 0) :
    CW tables_1 l Z consts_1 x code maxLocals ret room_1 #[(.int p0), (.int p1), (.int p2), (.int p3), (.int p4)] h0 [] (Q0 Z cz p0 p1 p2 p3 p4 h0) := by
  refine CW.of_walk (plainFor_of_name pn1) O (fun _ q => nomatch q) ?_
  intro p e s m below meth c T0 W0 hsf hx hby hml hoZ hnm hret hlk
  have H0 := W0.here; have hz0 := W0.zsize; have hEL := elw hw
  refine Goes.cast (ef6 m p0 p1 p2 p3 p4) ?_
  refine G.iloadN H0 hx 1 (hb hby at_0) rfl rfl ?_
  refine G.iconst H0 hx 2 (1 : Int32) (hb hby at_1) rfl rfl ?_
  refine G.iand H0 hx 3 (hb hby at_2) rfl ?_
  have J11_2 : ∀ (b1 : Int32) (hb1 : b1 = (if (p0 &&& (1 : Int32)) = 0 then (0 : Int32) else (1 : Int32))), Goes p e below (PostW s Z consts_1 h0 [] (Q0 Z cz p0 p1 p2 p3 p4 h0) room_1.cells room_1.slots) (T0.setTop (mkF m 11 #[.val (.int p0), .val (.int p1), .val (.int p2), .val (.int p3), .val (.int p4), .unset, .unset, .unset, .unset, .unset, .unset, .unset, .unset, .unset, .unset, .unset, .unset, .unset, .unset, .unset, .unset, .unset, .unset, .unset] [(.int b1)])) := by
    intro b1 hb1
    refine G.istoreX H0 hx 13 #[.val (.int p0), .val (.int p1), .val (.int p2), .val (.int p3), .val (.int p4), .val (.int b1), .unset, .unset, .unset, .unset, .unset, .unset, .unset, .unset, .unset, .unset, .unset, .unset, .unset, .unset, .unset, .unset, .unset, .unset] (hb hby at_11) rfl rfl ?_
    refine G.iloadN H0 hx 14 (hb hby at_13) rfl rfl ?_
    refine G.iconst H0 hx 15 (2 : Int32) (hb hby at_14) rfl rfl ?_
    refine G.iand H0 hx 16 (hb hby at_15) rfl ?_
    have J24_4 : ∀ (b3 : Int32) (hb3 : b3 = (if (p0 &&& (2 : Int32)) = 0 then (0 : Int32) else (1 : Int32))), Goes p e below (PostW s Z consts_1 h0 [] (Q0 Z cz p0 p1 p2 p3 p4 h0) room_1.cells room_1.slots) (T0.setTop (mkF m 24 #[.val (.int p0), .val (.int p1), .val (.int p2), .val (.int p3), .val (.int p4), .val (.int b1), .unset, .unset, .unset, .unset, .unset, .unset, .unset, .unset, .unset, .unset, .unset, .unset, .unset, .unset, .unset, .unset, .unset, .unset] [(.int b3)])) := by
      intro b3 hb3
      refine G.istoreX H0 hx 26 #[.val (.int p0), .val (.int p1), .val (.int p2), .val (.int p3), .val (.int p4), .val (.int b1), .val (.int b3), .unset, .unset, .unset, .unset, .unset, .unset, .unset, .unset, .unset, .unset, .unset, .unset, .unset, .unset, .unset, .unset, .unset] (hb hby at_24) rfl rfl ?_
      refine G.iloadN H0 hx 27 (hb hby at_26) rfl rfl ?_
      refine G.iconst H0 hx 28 (2 : Int32) (hb hby at_27) rfl rfl ?_
      refine G.iushr H0 hx 29 (hb hby at_28) rfl ?_
      refine G.iconst H0 hx 30 (3 : Int32) (hb hby at_29) rfl rfl ?_
      refine G.iand H0 hx 31 (hb hby at_30) rfl ?_
      refine G.istore H0 hx 33 (fun v => #[.val (.int p0), .val (.int p1), .val (.int p2), .val (.int p3), .val (.int p4), .val (.int b1), .val (.int b3), .val (.int v), .unset, .unset, .unset, .unset, .unset, .unset, .unset, .unset, .unset, .unset, .unset, .unset, .unset, .unset, .unset, .unset]) (hb hby at_31) (fun _ => rfl) rfl ?_
      intro v5 hv5
      refine G.iloadN H0 hx 34 (hb hby at_33) rfl rfl ?_
      refine G.iconst H0 hx 35 (4 : Int32) (hb hby at_34) rfl rfl ?_
      refine G.iushr H0 hx 36 (hb hby at_35) rfl ?_
      refine G.iconst H0 hx 37 (1 : Int32) (hb hby at_36) rfl rfl ?_
      refine G.iand H0 hx 38 (hb hby at_37) rfl ?_
      have J46_7 : ∀ (b6 : Int32) (hb6 : b6 = (if ((XT.ushr p0 (4 : Int32)) &&& (1 : Int32)) = 0 then (1 : Int32) else (0 : Int32))), Goes p e below (PostW s Z consts_1 h0 [] (Q0 Z cz p0 p1 p2 p3 p4 h0) room_1.cells room_1.slots) (T0.setTop (mkF m 46 #[.val (.int p0), .val (.int p1), .val (.int p2), .val (.int p3), .val (.int p4), .val (.int b1), .val (.int b3), .val (.int v5), .unset, .unset, .unset, .unset, .unset, .unset, .unset, .unset, .unset, .unset, .unset, .unset, .unset, .unset, .unset, .unset] [(.int b6)])) := by
        intro b6 hb6
        refine G.istoreX H0 hx 48 #[.val (.int p0), .val (.int p1), .val (.int p2), .val (.int p3), .val (.int p4), .val (.int b1), .val (.int b3), .val (.int v5), .val (.int b6), .unset, .unset, .unset, .unset, .unset, .unset, .unset, .unset, .unset, .unset, .unset, .unset, .unset, .unset, .unset] (hb hby at_46) rfl rfl ?_
        refine G.iload H0 hx 50 (hb hby at_48) rfl rfl ?_
        have J63_9 : ∀ (b8 : Int32) (hb8 : b8 = (if b6 = 0 then ((XT.ushr p0 (5 : Int32)) &&& (3 : Int32)) else v5)), Goes p e below (PostW s Z consts_1 h0 [] (Q0 Z cz p0 p1 p2 p3 p4 h0) room_1.cells room_1.slots) (T0.setTop (mkF m 63 #[.val (.int p0), .val (.int p1), .val (.int p2), .val (.int p3), .val (.int p4), .val (.int b1), .val (.int b3), .val (.int v5), .val (.int b6), .unset, .unset, .unset, .unset, .unset, .unset, .unset, .unset, .unset, .unset, .unset, .unset, .unset, .unset, .unset] [(.int b8)])) := by
          intro b8 hb8
          refine G.istoreX H0 hx 65 #[.val (.int p0), .val (.int p1), .val (.int p2), .val (.int p3), .val (.int p4), .val (.int b1), .val (.int b3), .val (.int v5), .val (.int b6), .val (.int b8), .unset, .unset, .unset, .unset, .unset, .unset, .unset, .unset, .unset, .unset, .unset, .unset, .unset, .unset] (hb hby at_63) rfl rfl ?_
          refine G.iloadN H0 hx 66 (hb hby at_65) rfl rfl ?_
          refine G.bipush H0 hx 68 (7 : Int32) (hb hby at_66) rfl rfl ?_
          refine G.iushr H0 hx 69 (hb hby at_68) rfl ?_
          refine G.iconst H0 hx 70 (1 : Int32) (hb hby at_69) rfl rfl ?_
          refine G.iand H0 hx 71 (hb hby at_70) rfl ?_
          have J79_11 : ∀ (b10 : Int32) (hb10 : b10 = (if ((XT.ushr p0 (7 : Int32)) &&& (1 : Int32)) = 0 then (1 : Int32) else (0 : Int32))), Goes p e below (PostW s Z consts_1 h0 [] (Q0 Z cz p0 p1 p2 p3 p4 h0) room_1.cells room_1.slots) (T0.setTop (mkF m 79 #[.val (.int p0), .val (.int p1), .val (.int p2), .val (.int p3), .val (.int p4), .val (.int b1), .val (.int b3), .val (.int v5), .val (.int b6), .val (.int b8), .unset, .unset, .unset, .unset, .unset, .unset, .unset, .unset, .unset, .unset, .unset, .unset, .unset, .unset] [(.int b10)])) := by
            intro b10 hb10
            refine G.istoreX H0 hx 81 #[.val (.int p0), .val (.int p1), .val (.int p2), .val (.int p3), .val (.int p4), .val (.int b1), .val (.int b3), .val (.int v5), .val (.int b6), .val (.int b8), .val (.int b10), .unset, .unset, .unset, .unset, .unset, .unset, .unset, .unset, .unset, .unset, .unset, .unset, .unset] (hb hby at_79) rfl rfl ?_
            refine G.iloadN H0 hx 82 (hb hby at_81) rfl rfl ?_
            refine G.bipush H0 hx 84 (8 : Int32) (hb hby at_82) rfl rfl ?_
            refine G.iushr H0 hx 85 (hb hby at_84) rfl ?_
            refine G.bipush H0 hx 87 (7 : Int32) (hb hby at_85) rfl rfl ?_
            refine G.iand H0 hx 88 (hb hby at_87) rfl ?_
            refine G.bipush H0 hx 90 (7 : Int32) (hb hby at_88) rfl rfl ?_
            have J98_13 : ∀ (b12 : Int32) (hb12 : b12 = (if ((XT.ushr p0 (8 : Int32)) &&& (7 : Int32)) = (7 : Int32) then (1 : Int32) else (0 : Int32))), Goes p e below (PostW s Z consts_1 h0 [] (Q0 Z cz p0 p1 p2 p3 p4 h0) room_1.cells room_1.slots) (T0.setTop (mkF m 98 #[.val (.int p0), .val (.int p1), .val (.int p2), .val (.int p3), .val (.int p4), .val (.int b1), .val (.int b3), .val (.int v5), .val (.int b6), .val (.int b8), .val (.int b10), .unset, .unset, .unset, .unset, .unset, .unset, .unset, .unset, .unset, .unset, .unset, .unset, .unset] [(.int b12)])) := by
              intro b12 hb12
              refine G.istoreX H0 hx 100 #[.val (.int p0), .val (.int p1), .val (.int p2), .val (.int p3), .val (.int p4), .val (.int b1), .val (.int b3), .val (.int v5), .val (.int b6), .val (.int b8), .val (.int b10), .val (.int b12), .unset, .unset, .unset, .unset, .unset, .unset, .unset, .unset, .unset, .unset, .unset, .unset] (hb hby at_98) rfl rfl ?_
              refine G.iloadN H0 hx 101 (hb hby at_100) rfl rfl ?_
              refine G.sipush H0 hx 104 (255 : Int32) (hb hby at_101) rfl rfl ?_
              refine G.iand H0 hx 105 (hb hby at_104) rfl ?_
              refine G.i2c H0 hx 106 (hb hby at_105) rfl ?_
              refine G.istore H0 hx 108 (fun v => #[.val (.int p0), .val (.int p1), .val (.int p2), .val (.int p3), .val (.int p4), .val (.int b1), .val (.int b3), .val (.int v5), .val (.int b6), .val (.int b8), .val (.int b10), .val (.int b12), .val (.int v), .unset, .unset, .unset, .unset, .unset, .unset, .unset, .unset, .unset, .unset, .unset]) (hb hby at_106) (fun _ => rfl) rfl ?_
              intro v14 hv14
              refine G.iloadN H0 hx 109 (hb hby at_108) rfl rfl ?_
              refine G.bipush H0 hx 111 (8 : Int32) (hb hby at_109) rfl rfl ?_
              refine G.iushr H0 hx 112 (hb hby at_111) rfl ?_
              refine G.sipush H0 hx 115 (255 : Int32) (hb hby at_112) rfl rfl ?_
              refine G.iand H0 hx 116 (hb hby at_115) rfl ?_
              refine G.i2c H0 hx 117 (hb hby at_116) rfl ?_
              refine G.istore H0 hx 119 (fun v => #[.val (.int p0), .val (.int p1), .val (.int p2), .val (.int p3), .val (.int p4), .val (.int b1), .val (.int b3), .val (.int v5), .val (.int b6), .val (.int b8), .val (.int b10), .val (.int b12), .val (.int v14), .val (.int v), .unset, .unset, .unset, .unset, .unset, .unset, .unset, .unset, .unset, .unset]) (hb hby at_117) (fun _ => rfl) rfl ?_
              intro v15 hv15
              refine G.iloadN H0 hx 120 (hb hby at_119) rfl rfl ?_
              refine G.bipush H0 hx 122 (16 : Int32) (hb hby at_120) rfl rfl ?_
              refine G.iushr H0 hx 123 (hb hby at_122) rfl ?_
              refine G.sipush H0 hx 126 (255 : Int32) (hb hby at_123) rfl rfl ?_
              refine G.iand H0 hx 127 (hb hby at_126) rfl ?_
              refine G.i2c H0 hx 128 (hb hby at_127) rfl ?_
              refine G.istore H0 hx 130 (fun v => #[.val (.int p0), .val (.int p1), .val (.int p2), .val (.int p3), .val (.int p4), .val (.int b1), .val (.int b3), .val (.int v5), .val (.int b6), .val (.int b8), .val (.int b10), .val (.int b12), .val (.int v14), .val (.int v15), .val (.int v), .unset, .unset, .unset, .unset, .unset, .unset, .unset, .unset, .unset]) (hb hby at_128) (fun _ => rfl) rfl ?_
              intro v16 hv16
              refine G.iload H0 hx 132 (hb hby at_130) rfl rfl ?_
              have J228_22 : ∀ (b17 : Int32) (hb17 : b17 = (if b10 = 0 then (OwnKit.i2c (p2 &&& (255 : Int32))) else (if ((XT.ushr p2 (24 : Int32)) &&& (3 : Int32)) = 0 then (OwnKit.i2c (p2 &&& (255 : Int32))) else v14))) (b18 : Int32) (hb18 : b18 = (if b10 = 0 then (OwnKit.i2c ((XT.ushr p2 (8 : Int32)) &&& (255 : Int32))) else (if ((XT.ushr p2 (24 : Int32)) &&& (3 : Int32)) = (1 : Int32) then (OwnKit.i2c (p2 &&& (255 : Int32))) else v15))) (b19 : Int32) (hb19 : b19 = (if b10 = 0 then (OwnKit.i2c ((XT.ushr p2 (16 : Int32)) &&& (255 : Int32))) else (if ((XT.ushr p2 (24 : Int32)) &&& (3 : Int32)) = (2 : Int32) then (OwnKit.i2c (p2 &&& (255 : Int32))) else v16))) (s20 : Slot) (hs20 : s20 = .unset ∨ ∃ w, s20 = .val w ∧ w.category = 1) (s21 : Slot) (hs21 : s21 = .unset ∨ ∃ w, s21 = .val w ∧ w.category = 1), Goes p e below (PostW s Z consts_1 h0 [] (Q0 Z cz p0 p1 p2 p3 p4 h0) room_1.cells room_1.slots) (T0.setTop (mkF m 228 #[.val (.int p0), .val (.int p1), .val (.int p2), .val (.int p3), .val (.int p4), .val (.int b1), .val (.int b3), .val (.int v5), .val (.int b6), .val (.int b8), .val (.int b10), .val (.int b12), .val (.int v14), .val (.int v15), .val (.int v16), .val (.int b17), .val (.int b18), .val (.int b19), s20, s21, .unset, .unset, .unset, .unset] [])) := by
                intro b17 hb17 b18 hb18 b19 hb19 s20 hs20 s21 hs21
                refine G.iload H0 hx 230 (hb hby at_228) rfl rfl ?_
                refine G.iload H0 hx 232 (hb hby at_230) rfl rfl ?_
                refine G.iload H0 hx 234 (hb hby at_232) rfl rfl ?_
                refine G.iload H0 hx 236 (hb hby at_234) rfl rfl ?_
                refine Wk.callSW W0 hx hoZ (y := (⟨"com/example/ken/ken/collection/TagClosesPinLaw", "str", "(ICCC)Ljava/lang/String;"⟩ : MethodName)) (wd hw 0 rfl) (wd hw 1 rfl) (wd hw 2 rfl) (wd hw 3 rfl) (by decide) (Wd := 0) (CW.back (rmMk l Z a0 hw cz v5 v14 v15 v16 h0 W0.old hCS hcz (own_n hv14) (own_n hv15) (own_n hv16)) W0.warm (wd hw 3 rfl) (wd hw 2 rfl) (by decide) (by decide) hEL W0.ch (fun _ q => nomatch q) (fun _ q => nomatch q)) (by rw [hml]; rfl) [(.int v5), (.int v14), (.int v15), (.int v16)] [] (lenOf pd3 rfl) rfl rfl (Nat.le_of_eq rfl) 239 (hb hby at_236) rfl (by decide) (by decide) (fun _ q => nomatch q) ?_
                intro v23 vm23 T23 h23 W23 K23 C23 Q23
                have H23 := W23.here; have z23 := K23.1
                obtain ⟨a23, rfl, g23, Sv23⟩ := Q23; have l23 := ltN Sv23.lt
                show Goes p e below (PostW s Z consts_1 h0 [] (Q0 Z cz p0 p1 p2 p3 p4 h0) room_1.cells room_1.slots) (T23.setTop (mkF m 239 #[.val (.int p0), .val (.int p1), .val (.int p2), .val (.int p3), .val (.int p4), .val (.int b1), .val (.int b3), .val (.int v5), .val (.int b6), .val (.int b8), .val (.int b10), .val (.int b12), .val (.int v14), .val (.int v15), .val (.int v16), .val (.int b17), .val (.int b18), .val (.int b19), s20, s21, .unset, .unset, .unset, .unset] [(.ref a23)]))
                refine G.astore H23 hx 241 #[.val (.int p0), .val (.int p1), .val (.int p2), .val (.int p3), .val (.int p4), .val (.int b1), .val (.int b3), .val (.int v5), .val (.int b6), .val (.int b8), .val (.int b10), .val (.int b12), .val (.int v14), .val (.int v15), .val (.int v16), .val (.int b17), .val (.int b18), .val (.int b19), .val (.ref a23), s21, .unset, .unset, .unset, .unset] (hb hby at_239) rfl (XS.store1 rfl hs20 rfl) rfl ?_
                refine G.iload H23 hx 243 (hb hby at_241) rfl rfl ?_
                by_cases c243_24 : b12 = 0
                ·
                  refine G.ifY H23 hx 250 (hb hby at_243) (zeq c243_24).1 (by decide) rfl ?_
                  refine G.iload H23 hx 252 (hb hby at_250) rfl rfl ?_
                  refine G.iload H23 hx 254 (hb hby at_252) rfl rfl ?_
                  refine G.iload H23 hx 256 (hb hby at_254) rfl rfl ?_
                  refine G.iload H23 hx 258 (hb hby at_256) rfl rfl ?_
                  refine Wk.callSW W23 hx hoZ (y := (⟨"com/example/ken/ken/collection/TagClosesPinLaw", "str", "(ICCC)Ljava/lang/String;"⟩ : MethodName)) (wd hw 0 rfl) (wd hw 1 rfl) (wd hw 2 rfl) (wd hw 3 rfl) (by decide) (Wd := 0) (CW.back (rmMk l Z a0 hw cz b8 b17 b18 b19 h23 W23.old hCS hcz (own_e hb17 (own_n hv14)) (own_e hb18 (own_n hv15)) (own_e hb19 (own_n hv16))) W23.warm (wd hw 3 rfl) (wd hw 2 rfl) (by decide) (by decide) hEL W23.ch (fun _ q => nomatch q) (fun _ q => nomatch q)) (by rw [hml]; rfl) [(.int b8), (.int b17), (.int b18), (.int b19)] [] (lenOf pd3 rfl) rfl rfl (Nat.le_of_eq rfl) 261 (hb hby at_258) rfl (by decide) (by decide) (fun _ q => nomatch q) ?_
                  intro v25 vm25 T25 h25 W25 K25 C25 Q25
                  have H25 := W25.here; have z25 := K25.1
                  obtain ⟨a25, rfl, g25, Sv25⟩ := Q25; have l25 := ltN Sv25.lt
                  show Goes p e below (PostW s Z consts_1 h0 [] (Q0 Z cz p0 p1 p2 p3 p4 h0) room_1.cells room_1.slots) (T25.setTop (mkF m 261 #[.val (.int p0), .val (.int p1), .val (.int p2), .val (.int p3), .val (.int p4), .val (.int b1), .val (.int b3), .val (.int v5), .val (.int b6), .val (.int b8), .val (.int b10), .val (.int b12), .val (.int v14), .val (.int v15), .val (.int v16), .val (.int b17), .val (.int b18), .val (.int b19), .val (.ref a23), s21, .unset, .unset, .unset, .unset] [(.ref a25)]))
                  refine G.astore H25 hx 263 #[.val (.int p0), .val (.int p1), .val (.int p2), .val (.int p3), .val (.int p4), .val (.int b1), .val (.int b3), .val (.int v5), .val (.int b6), .val (.int b8), .val (.int b10), .val (.int b12), .val (.int v14), .val (.int v15), .val (.int v16), .val (.int b17), .val (.int b18), .val (.int b19), .val (.ref a23), .val (.ref a25), .unset, .unset, .unset, .unset] (hb hby at_261) rfl (XS.store1 rfl hs21 rfl) rfl ?_
                  refine Wk.newO W25 hx hoZ (wd hw 26 rfl) (wd hw 27 rfl) (wd hw 28 rfl) 266 (hb hby at_263) rfl (by decide) (by decide) ?_
                  intro T26 h26 a26 W26 E26 g26 A26 D26 S26
                  have H26 := W26.here; have z26 := E26.1; have gu26 := Nat.le_of_eq g26; have gt26 := Nat.le_of_eq g26.symm; have l26 := ltN A26.lt
                  refine G.dup H26 hx 267 (hb hby at_266) rfl rfl ?_
                  refine G.aload H26 hx 269 (hb hby at_267) rfl rfl rfl ?_
                  refine G.iload H26 hx 271 (hb hby at_269) rfl rfl ?_
                  refine G.iload H26 hx 273 (hb hby at_271) rfl rfl ?_
                  refine G.iloadN H26 hx 274 (hb hby at_273) rfl rfl ?_
                  refine G.iload H26 hx 276 (hb hby at_274) rfl rfl ?_
                  refine Wk.special W26 hx hoZ (y := (⟨"com/example/ken/ken/collection/TagScanner$Tag", "<init>", "(Ljava/lang/String;ZZII)V"⟩ : MethodName)) rfl (wd hw 29 rfl) (wd hw 30 rfl) (wd hw 31 rfl) (by decide) (Wd := 1) (CN.back (rmTin l Z a0 hw a26 (.ref a23) b1 b3 p3 p4 h26 W26.old (by omega) A26 rfl (own_b hb1) (own_b hb3) (D26 (Or.inr (wd hw 34 rfl)) (ty := (.object "java/lang/String")) (by decide)) (D26 (Or.inr (wd hw 36 rfl)) (ty := .boolean) (by decide)) (D26 (Or.inr (wd hw 38 rfl)) (ty := .boolean) (by decide)) (D26 (Or.inr (wd hw 40 rfl)) (ty := .int) (by decide)) (D26 (Or.inr (wd hw 42 rfl)) (ty := .int) (by decide))) W26.warm (wd hw 31 rfl) (wd hw 28 rfl) (by decide) (by decide)) a26 (by rw [hml]; rfl) [(.ref a23), (.int b1), (.int b3), (.int p3), (.int p4)] [(.ref a26)] (lenOf pd4 rfl) rfl rfl (Nat.le_of_eq rfl) 279 (hb hby at_276) rfl (by decide) (by decide) (hws1 (Or.inr (by omega)) S26) ?_
                  intro v27 T27 h27 W27 K27 C27 Q27
                  have H27 := W27.here; have z27 := K27.1
                  obtain ⟨rfl, X27, F27_name, F27_closing, F27_empty, F27_line, F27_start⟩ := Q27
                  show Goes p e below (PostW s Z consts_1 h0 [] (Q0 Z cz p0 p1 p2 p3 p4 h0) room_1.cells room_1.slots) (T27.setTop (mkF m 279 #[.val (.int p0), .val (.int p1), .val (.int p2), .val (.int p3), .val (.int p4), .val (.int b1), .val (.int b3), .val (.int v5), .val (.int b6), .val (.int b8), .val (.int b10), .val (.int b12), .val (.int v14), .val (.int v15), .val (.int v16), .val (.int b17), .val (.int b18), .val (.int b19), .val (.ref a23), .val (.ref a25), .unset, .unset, .unset, .unset] [(.ref a26)]))
                  refine G.astore H27 hx 281 #[.val (.int p0), .val (.int p1), .val (.int p2), .val (.int p3), .val (.int p4), .val (.int b1), .val (.int b3), .val (.int v5), .val (.int b6), .val (.int b8), .val (.int b10), .val (.int b12), .val (.int v14), .val (.int v15), .val (.int v16), .val (.int b17), .val (.int b18), .val (.int b19), .val (.ref a23), .val (.ref a25), .val (.ref a26), .unset, .unset, .unset] (hb hby at_279) rfl rfl rfl ?_
                  refine G.aload H27 hx 283 (hb hby at_281) rfl rfl rfl ?_
                  refine G.aload H27 hx 285 (hb hby at_283) rfl rfl rfl ?_
                  refine Wk.virtual W27 hx hoZ (y := (⟨"com/example/ken/ken/collection/TagScanner$Tag", "closes", "(Ljava/lang/String;)Z"⟩ : MethodName)) (z := (⟨"com/example/ken/ken/collection/TagScanner$Tag", "closes", "(Ljava/lang/String;)Z"⟩ : MethodName)) (wd hw 43 rfl) (wd hw 44 rfl) (wd hw 46 rfl) (wd hw 45 rfl) (W27.nf (wd hw 46 rfl)) (by decide) (Wd := 0) (CN.back (rmOpS l Z a0 hw cz a26 a25 a23 b1 (mkL v5 v14 v15 v16) (mkL b8 b17 b18 b19) h27 W27.old hCS hcz X27 F27_closing F27_name (((Sv23.keepX K25 ala0).ext E26).keepX K27 (ala ⟨neA (by omega), NB.exa A26 (wd hw 27 rfl)⟩ (ala0))) ((Sv25.ext E26).keepX K27 (ala ⟨neA (by omega), NB.exa A26 (wd hw 27 rfl)⟩ (ala0)))) W27.warm (wd hw 47 rfl) (wd hw 28 rfl) (by decide) (by decide)) X27 (by rw [hml]; rfl) [(.ref a25)] [] (lenOf pd5 rfl) rfl rfl (Nat.le_of_eq rfl) 288 (hb hby at_285) rfl (by decide) (by decide) (fun _ q => nomatch q) ?_
                  intro v28 T28 h28 W28 K28 C28 Q28
                  have H28 := W28.here; have z28 := K28.1
                  obtain rfl : _ = _ := Q28
                  show Goes p e below (PostW s Z consts_1 h0 [] (Q0 Z cz p0 p1 p2 p3 p4 h0) room_1.cells room_1.slots) (T28.setTop (mkF m 288 #[.val (.int p0), .val (.int p1), .val (.int p2), .val (.int p3), .val (.int p4), .val (.int b1), .val (.int b3), .val (.int v5), .val (.int b6), .val (.int b8), .val (.int b10), .val (.int b12), .val (.int v14), .val (.int v15), .val (.int v16), .val (.int b17), .val (.int b18), .val (.int b19), .val (.ref a23), .val (.ref a25), .val (.ref a26), .unset, .unset, .unset] [(.int (if ¬ b1 = 0 ∧ (mkL v5 v14 v15 v16) = (mkL b8 b17 b18 b19) then (1 : Int32) else (0 : Int32)))]))
                  refine G.istore H28 hx 290 (fun v => #[.val (.int p0), .val (.int p1), .val (.int p2), .val (.int p3), .val (.int p4), .val (.int b1), .val (.int b3), .val (.int v5), .val (.int b6), .val (.int b8), .val (.int b10), .val (.int b12), .val (.int v14), .val (.int v15), .val (.int v16), .val (.int b17), .val (.int b18), .val (.int b19), .val (.ref a23), .val (.ref a25), .val (.ref a26), .val (.int v), .unset, .unset]) (hb hby at_288) (fun _ => rfl) rfl ?_
                  intro v29 hv29
                  refine G.iload H28 hx 292 (hb hby at_290) rfl rfl ?_
                  refine G.iload H28 hx 294 (hb hby at_292) rfl rfl ?_
                  have J341_31 : ∀ (b30 : Int32) (hb30 : b30 = (if v5 = b8 then (if v5 < (1 : Int32) then (if v5 < (2 : Int32) then (if v5 < (3 : Int32) then (1 : Int32) else (if v16 = b19 then (1 : Int32) else (0 : Int32))) else (if v15 = b18 then (if v5 < (3 : Int32) then (1 : Int32) else (if v16 = b19 then (1 : Int32) else (0 : Int32))) else (0 : Int32))) else (if v14 = b17 then (if v5 < (2 : Int32) then (if v5 < (3 : Int32) then (1 : Int32) else (if v16 = b19 then (1 : Int32) else (0 : Int32))) else (if v15 = b18 then (if v5 < (3 : Int32) then (1 : Int32) else (if v16 = b19 then (1 : Int32) else (0 : Int32))) else (0 : Int32))) else (0 : Int32))) else (0 : Int32))), Goes p e below (PostW s Z consts_1 h0 [] (Q0 Z cz p0 p1 p2 p3 p4 h0) room_1.cells room_1.slots) (T28.setTop (mkF m 341 #[.val (.int p0), .val (.int p1), .val (.int p2), .val (.int p3), .val (.int p4), .val (.int b1), .val (.int b3), .val (.int v5), .val (.int b6), .val (.int b8), .val (.int b10), .val (.int b12), .val (.int v14), .val (.int v15), .val (.int v16), .val (.int b17), .val (.int b18), .val (.int b19), .val (.ref a23), .val (.ref a25), .val (.ref a26), .val (.int v29), .unset, .unset] [(.int b30)])) := by
                    intro b30 hb30
                    refine G.istoreX H28 hx 343 #[.val (.int p0), .val (.int p1), .val (.int p2), .val (.int p3), .val (.int p4), .val (.int b1), .val (.int b3), .val (.int v5), .val (.int b6), .val (.int b8), .val (.int b10), .val (.int b12), .val (.int v14), .val (.int v15), .val (.int v16), .val (.int b17), .val (.int b18), .val (.int b19), .val (.ref a23), .val (.ref a25), .val (.ref a26), .val (.int v29), .val (.int b30), .unset] (hb hby at_341) rfl rfl ?_
                    refine G.iload H28 hx 345 (hb hby at_343) rfl rfl ?_
                    refine G.ifN H28 hx 348 (hb hby at_345) (zeq c243_24).2 rfl ?_
                    refine G.iload H28 hx 350 (hb hby at_348) rfl rfl ?_
                    have J363_33 : ∀ (b32 : Int32) (hb32 : b32 = (if b1 = 0 then (0 : Int32) else (if b30 = 0 then (0 : Int32) else (1 : Int32)))), Goes p e below (PostW s Z consts_1 h0 [] (Q0 Z cz p0 p1 p2 p3 p4 h0) room_1.cells room_1.slots) (T28.setTop (mkF m 363 #[.val (.int p0), .val (.int p1), .val (.int p2), .val (.int p3), .val (.int p4), .val (.int b1), .val (.int b3), .val (.int v5), .val (.int b6), .val (.int b8), .val (.int b10), .val (.int b12), .val (.int v14), .val (.int v15), .val (.int v16), .val (.int b17), .val (.int b18), .val (.int b19), .val (.ref a23), .val (.ref a25), .val (.ref a26), .val (.int v29), .val (.int b30), .unset] [(.int b32)])) := by
                      intro b32 hb32
                      refine G.istoreX H28 hx 365 #[.val (.int p0), .val (.int p1), .val (.int p2), .val (.int p3), .val (.int p4), .val (.int b1), .val (.int b3), .val (.int v5), .val (.int b6), .val (.int b8), .val (.int b10), .val (.int b12), .val (.int v14), .val (.int v15), .val (.int v16), .val (.int b17), .val (.int b18), .val (.int b19), .val (.ref a23), .val (.ref a25), .val (.ref a26), .val (.int v29), .val (.int b30), .val (.int b32)] (hb hby at_363) rfl rfl ?_
                      refine G.iload H28 hx 367 (hb hby at_365) rfl rfl ?_
                      refine G.iload H28 hx 369 (hb hby at_367) rfl rfl ?_
                      have J377_35 : ∀ (b34 : Int32) (hb34 : b34 = (if v29 = b32 then (1 : Int32) else (0 : Int32))), Goes p e below (PostW s Z consts_1 h0 [] (Q0 Z cz p0 p1 p2 p3 p4 h0) room_1.cells room_1.slots) (T28.setTop (mkF m 377 #[.val (.int p0), .val (.int p1), .val (.int p2), .val (.int p3), .val (.int p4), .val (.int b1), .val (.int b3), .val (.int v5), .val (.int b6), .val (.int b8), .val (.int b10), .val (.int b12), .val (.int v14), .val (.int v15), .val (.int v16), .val (.int b17), .val (.int b18), .val (.int b19), .val (.ref a23), .val (.ref a25), .val (.ref a26), .val (.int v29), .val (.int b30), .val (.int b32)] [(.int b34)])) := by
                        intro b34 hb34
                        exact Wk.retNW W28 hx hEL b34 (t := .boolean) (by rw [hb34]; repeat' (first | rfl | split)) (by simp) hret hlk (hb hby at_377) (by decide) (by decide) (own_end hb34 hb32 hb30 hv29 (own_m4 hv5) (own_m4e hb8 (own_m4 hv5)))
                      by_cases c369_36 : v29 = b32
                      ·
                        refine G.icmpN H28 hx 372 (hb hby at_369) (teq c369_36).2 rfl ?_
                        refine G.iconst H28 hx 373 (1 : Int32) (hb hby at_372) rfl rfl ?_
                        refine G.goto H28 hx 377 (hb hby at_373) (by decide) rfl ?_
                        exact J377_35 _ (by simp only [if_pos c369_36])
                      ·
                        refine G.icmpY H28 hx 376 (hb hby at_369) (feq c369_36).2 (by decide) rfl ?_
                        refine G.iconst H28 hx 377 (0 : Int32) (hb hby at_376) rfl rfl ?_
                        exact J377_35 _ (by simp only [if_neg c369_36])
                    by_cases c350_37 : b1 = 0
                    ·
                      refine G.ifY H28 hx 362 (hb hby at_350) (zeq c350_37).1 (by decide) rfl ?_
                      refine G.iconst H28 hx 363 (0 : Int32) (hb hby at_362) rfl rfl ?_
                      exact J363_33 _ (by simp only [if_pos c350_37])
                    ·
                      refine G.ifN H28 hx 353 (hb hby at_350) (zne c350_37).1 rfl ?_
                      refine G.iload H28 hx 355 (hb hby at_353) rfl rfl ?_
                      by_cases c355_38 : b30 = 0
                      ·
                        refine G.ifY H28 hx 362 (hb hby at_355) (zeq c355_38).1 (by decide) rfl ?_
                        refine G.iconst H28 hx 363 (0 : Int32) (hb hby at_362) rfl rfl ?_
                        exact J363_33 _ (by simp only [if_neg c350_37, if_pos c355_38])
                      ·
                        refine G.ifN H28 hx 358 (hb hby at_355) (zne c355_38).1 rfl ?_
                        refine G.iconst H28 hx 359 (1 : Int32) (hb hby at_358) rfl rfl ?_
                        refine G.goto H28 hx 363 (hb hby at_359) (by decide) rfl ?_
                        exact J363_33 _ (by simp only [if_neg c350_37, if_neg c355_38])
                  by_cases c294_39 : v5 = b8
                  ·
                    refine G.icmpN H28 hx 297 (hb hby at_294) (teq c294_39).2 rfl ?_
                    refine G.iload H28 hx 299 (hb hby at_297) rfl rfl ?_
                    refine G.iconst H28 hx 300 (1 : Int32) (hb hby at_299) rfl rfl ?_
                    by_cases c300_40 : v5 < (1 : Int32)
                    ·
                      refine G.icmpY H28 hx 310 (hb hby at_300) (tlt c300_40).1 (by decide) rfl ?_
                      refine G.iload H28 hx 312 (hb hby at_310) rfl rfl ?_
                      refine G.iconst H28 hx 313 (2 : Int32) (hb hby at_312) rfl rfl ?_
                      by_cases c313_41 : v5 < (2 : Int32)
                      ·
                        refine G.icmpY H28 hx 323 (hb hby at_313) (tlt c313_41).1 (by decide) rfl ?_
                        refine G.iload H28 hx 325 (hb hby at_323) rfl rfl ?_
                        refine G.iconst H28 hx 326 (3 : Int32) (hb hby at_325) rfl rfl ?_
                        by_cases c326_42 : v5 < (3 : Int32)
                        ·
                          refine G.icmpY H28 hx 336 (hb hby at_326) (tlt c326_42).1 (by decide) rfl ?_
                          refine G.iconst H28 hx 337 (1 : Int32) (hb hby at_336) rfl rfl ?_
                          refine G.goto H28 hx 341 (hb hby at_337) (by decide) rfl ?_
                          exact J341_31 _ (by simp only [if_pos c294_39, if_pos c300_40, if_pos c313_41, if_pos c326_42])
                        ·
                          refine G.icmpN H28 hx 329 (hb hby at_326) (flt c326_42).1 rfl ?_
                          refine G.iload H28 hx 331 (hb hby at_329) rfl rfl ?_
                          refine G.iload H28 hx 333 (hb hby at_331) rfl rfl ?_
                          by_cases c333_43 : v16 = b19
                          ·
                            refine G.icmpN H28 hx 336 (hb hby at_333) (teq c333_43).2 rfl ?_
                            refine G.iconst H28 hx 337 (1 : Int32) (hb hby at_336) rfl rfl ?_
                            refine G.goto H28 hx 341 (hb hby at_337) (by decide) rfl ?_
                            exact J341_31 _ (by simp only [if_pos c294_39, if_pos c300_40, if_pos c313_41, if_neg c326_42, if_pos c333_43])
                          ·
                            refine G.icmpY H28 hx 340 (hb hby at_333) (feq c333_43).2 (by decide) rfl ?_
                            refine G.iconst H28 hx 341 (0 : Int32) (hb hby at_340) rfl rfl ?_
                            exact J341_31 _ (by simp only [if_pos c294_39, if_pos c300_40, if_pos c313_41, if_neg c326_42, if_neg c333_43])
                      ·
                        refine G.icmpN H28 hx 316 (hb hby at_313) (flt c313_41).1 rfl ?_
                        refine G.iload H28 hx 318 (hb hby at_316) rfl rfl ?_
                        refine G.iload H28 hx 320 (hb hby at_318) rfl rfl ?_
                        by_cases c320_44 : v15 = b18
                        ·
                          refine G.icmpN H28 hx 323 (hb hby at_320) (teq c320_44).2 rfl ?_
                          refine G.iload H28 hx 325 (hb hby at_323) rfl rfl ?_
                          refine G.iconst H28 hx 326 (3 : Int32) (hb hby at_325) rfl rfl ?_
                          by_cases c326_45 : v5 < (3 : Int32)
                          ·
                            refine G.icmpY H28 hx 336 (hb hby at_326) (tlt c326_45).1 (by decide) rfl ?_
                            refine G.iconst H28 hx 337 (1 : Int32) (hb hby at_336) rfl rfl ?_
                            refine G.goto H28 hx 341 (hb hby at_337) (by decide) rfl ?_
                            exact J341_31 _ (by simp only [if_pos c294_39, if_pos c300_40, if_neg c313_41, if_pos c320_44, if_pos c326_45])
                          ·
                            refine G.icmpN H28 hx 329 (hb hby at_326) (flt c326_45).1 rfl ?_
                            refine G.iload H28 hx 331 (hb hby at_329) rfl rfl ?_
                            refine G.iload H28 hx 333 (hb hby at_331) rfl rfl ?_
                            by_cases c333_46 : v16 = b19
                            ·
                              refine G.icmpN H28 hx 336 (hb hby at_333) (teq c333_46).2 rfl ?_
                              refine G.iconst H28 hx 337 (1 : Int32) (hb hby at_336) rfl rfl ?_
                              refine G.goto H28 hx 341 (hb hby at_337) (by decide) rfl ?_
                              exact J341_31 _ (by simp only [if_pos c294_39, if_pos c300_40, if_neg c313_41, if_pos c320_44, if_neg c326_45, if_pos c333_46])
                            ·
                              refine G.icmpY H28 hx 340 (hb hby at_333) (feq c333_46).2 (by decide) rfl ?_
                              refine G.iconst H28 hx 341 (0 : Int32) (hb hby at_340) rfl rfl ?_
                              exact J341_31 _ (by simp only [if_pos c294_39, if_pos c300_40, if_neg c313_41, if_pos c320_44, if_neg c326_45, if_neg c333_46])
                        ·
                          refine G.icmpY H28 hx 340 (hb hby at_320) (feq c320_44).2 (by decide) rfl ?_
                          refine G.iconst H28 hx 341 (0 : Int32) (hb hby at_340) rfl rfl ?_
                          exact J341_31 _ (by simp only [if_pos c294_39, if_pos c300_40, if_neg c313_41, if_neg c320_44])
                    ·
                      refine G.icmpN H28 hx 303 (hb hby at_300) (flt c300_40).1 rfl ?_
                      refine G.iload H28 hx 305 (hb hby at_303) rfl rfl ?_
                      refine G.iload H28 hx 307 (hb hby at_305) rfl rfl ?_
                      by_cases c307_47 : v14 = b17
                      ·
                        refine G.icmpN H28 hx 310 (hb hby at_307) (teq c307_47).2 rfl ?_
                        refine G.iload H28 hx 312 (hb hby at_310) rfl rfl ?_
                        refine G.iconst H28 hx 313 (2 : Int32) (hb hby at_312) rfl rfl ?_
                        by_cases c313_48 : v5 < (2 : Int32)
                        ·
                          refine G.icmpY H28 hx 323 (hb hby at_313) (tlt c313_48).1 (by decide) rfl ?_
                          refine G.iload H28 hx 325 (hb hby at_323) rfl rfl ?_
                          refine G.iconst H28 hx 326 (3 : Int32) (hb hby at_325) rfl rfl ?_
                          by_cases c326_49 : v5 < (3 : Int32)
                          ·
                            refine G.icmpY H28 hx 336 (hb hby at_326) (tlt c326_49).1 (by decide) rfl ?_
                            refine G.iconst H28 hx 337 (1 : Int32) (hb hby at_336) rfl rfl ?_
                            refine G.goto H28 hx 341 (hb hby at_337) (by decide) rfl ?_
                            exact J341_31 _ (by simp only [if_pos c294_39, if_neg c300_40, if_pos c307_47, if_pos c313_48, if_pos c326_49])
                          ·
                            refine G.icmpN H28 hx 329 (hb hby at_326) (flt c326_49).1 rfl ?_
                            refine G.iload H28 hx 331 (hb hby at_329) rfl rfl ?_
                            refine G.iload H28 hx 333 (hb hby at_331) rfl rfl ?_
                            by_cases c333_50 : v16 = b19
                            ·
                              refine G.icmpN H28 hx 336 (hb hby at_333) (teq c333_50).2 rfl ?_
                              refine G.iconst H28 hx 337 (1 : Int32) (hb hby at_336) rfl rfl ?_
                              refine G.goto H28 hx 341 (hb hby at_337) (by decide) rfl ?_
                              exact J341_31 _ (by simp only [if_pos c294_39, if_neg c300_40, if_pos c307_47, if_pos c313_48, if_neg c326_49, if_pos c333_50])
                            ·
                              refine G.icmpY H28 hx 340 (hb hby at_333) (feq c333_50).2 (by decide) rfl ?_
                              refine G.iconst H28 hx 341 (0 : Int32) (hb hby at_340) rfl rfl ?_
                              exact J341_31 _ (by simp only [if_pos c294_39, if_neg c300_40, if_pos c307_47, if_pos c313_48, if_neg c326_49, if_neg c333_50])
                        ·
                          refine G.icmpN H28 hx 316 (hb hby at_313) (flt c313_48).1 rfl ?_
                          refine G.iload H28 hx 318 (hb hby at_316) rfl rfl ?_
                          refine G.iload H28 hx 320 (hb hby at_318) rfl rfl ?_
                          by_cases c320_51 : v15 = b18
                          ·
                            refine G.icmpN H28 hx 323 (hb hby at_320) (teq c320_51).2 rfl ?_
                            refine G.iload H28 hx 325 (hb hby at_323) rfl rfl ?_
                            refine G.iconst H28 hx 326 (3 : Int32) (hb hby at_325) rfl rfl ?_
                            by_cases c326_52 : v5 < (3 : Int32)
                            ·
                              refine G.icmpY H28 hx 336 (hb hby at_326) (tlt c326_52).1 (by decide) rfl ?_
                              refine G.iconst H28 hx 337 (1 : Int32) (hb hby at_336) rfl rfl ?_
                              refine G.goto H28 hx 341 (hb hby at_337) (by decide) rfl ?_
                              exact J341_31 _ (by simp only [if_pos c294_39, if_neg c300_40, if_pos c307_47, if_neg c313_48, if_pos c320_51, if_pos c326_52])
                            ·
                              refine G.icmpN H28 hx 329 (hb hby at_326) (flt c326_52).1 rfl ?_
                              refine G.iload H28 hx 331 (hb hby at_329) rfl rfl ?_
                              refine G.iload H28 hx 333 (hb hby at_331) rfl rfl ?_
                              by_cases c333_53 : v16 = b19
                              ·
                                refine G.icmpN H28 hx 336 (hb hby at_333) (teq c333_53).2 rfl ?_
                                refine G.iconst H28 hx 337 (1 : Int32) (hb hby at_336) rfl rfl ?_
                                refine G.goto H28 hx 341 (hb hby at_337) (by decide) rfl ?_
                                exact J341_31 _ (by simp only [if_pos c294_39, if_neg c300_40, if_pos c307_47, if_neg c313_48, if_pos c320_51, if_neg c326_52, if_pos c333_53])
                              ·
                                refine G.icmpY H28 hx 340 (hb hby at_333) (feq c333_53).2 (by decide) rfl ?_
                                refine G.iconst H28 hx 341 (0 : Int32) (hb hby at_340) rfl rfl ?_
                                exact J341_31 _ (by simp only [if_pos c294_39, if_neg c300_40, if_pos c307_47, if_neg c313_48, if_pos c320_51, if_neg c326_52, if_neg c333_53])
                          ·
                            refine G.icmpY H28 hx 340 (hb hby at_320) (feq c320_51).2 (by decide) rfl ?_
                            refine G.iconst H28 hx 341 (0 : Int32) (hb hby at_340) rfl rfl ?_
                            exact J341_31 _ (by simp only [if_pos c294_39, if_neg c300_40, if_pos c307_47, if_neg c313_48, if_neg c320_51])
                      ·
                        refine G.icmpY H28 hx 340 (hb hby at_307) (feq c307_47).2 (by decide) rfl ?_
                        refine G.iconst H28 hx 341 (0 : Int32) (hb hby at_340) rfl rfl ?_
                        exact J341_31 _ (by simp only [if_pos c294_39, if_neg c300_40, if_neg c307_47])
                  ·
                    refine G.icmpY H28 hx 340 (hb hby at_294) (feq c294_39).2 (by decide) rfl ?_
                    refine G.iconst H28 hx 341 (0 : Int32) (hb hby at_340) rfl rfl ?_
                    exact J341_31 _ (by simp only [if_neg c294_39])
                ·
                  refine G.ifN H23 hx 246 (hb hby at_243) (zne c243_24).1 rfl ?_
                  refine G.aconstNull H23 hx 247 (hb hby at_246) rfl ?_
                  refine G.goto H23 hx 261 (hb hby at_247) (by decide) rfl ?_
                  refine G.astore H23 hx 263 #[.val (.int p0), .val (.int p1), .val (.int p2), .val (.int p3), .val (.int p4), .val (.int b1), .val (.int b3), .val (.int v5), .val (.int b6), .val (.int b8), .val (.int b10), .val (.int b12), .val (.int v14), .val (.int v15), .val (.int v16), .val (.int b17), .val (.int b18), .val (.int b19), .val (.ref a23), .val .null, .unset, .unset, .unset, .unset] (hb hby at_261) rfl (XS.store1 rfl hs21 rfl) rfl ?_
                  refine Wk.newO W23 hx hoZ (wd hw 26 rfl) (wd hw 27 rfl) (wd hw 28 rfl) 266 (hb hby at_263) rfl (by decide) (by decide) ?_
                  intro T54 h54 a54 W54 E54 g54 A54 D54 S54
                  have H54 := W54.here; have z54 := E54.1; have gu54 := Nat.le_of_eq g54; have gt54 := Nat.le_of_eq g54.symm; have l54 := ltN A54.lt
                  refine G.dup H54 hx 267 (hb hby at_266) rfl rfl ?_
                  refine G.aload H54 hx 269 (hb hby at_267) rfl rfl rfl ?_
                  refine G.iload H54 hx 271 (hb hby at_269) rfl rfl ?_
                  refine G.iload H54 hx 273 (hb hby at_271) rfl rfl ?_
                  refine G.iloadN H54 hx 274 (hb hby at_273) rfl rfl ?_
                  refine G.iload H54 hx 276 (hb hby at_274) rfl rfl ?_
                  refine Wk.special W54 hx hoZ (y := (⟨"com/example/ken/ken/collection/TagScanner$Tag", "<init>", "(Ljava/lang/String;ZZII)V"⟩ : MethodName)) rfl (wd hw 29 rfl) (wd hw 30 rfl) (wd hw 31 rfl) (by decide) (Wd := 1) (CN.back (rmTin l Z a0 hw a54 (.ref a23) b1 b3 p3 p4 h54 W54.old (by omega) A54 rfl (own_b hb1) (own_b hb3) (D54 (Or.inr (wd hw 34 rfl)) (ty := (.object "java/lang/String")) (by decide)) (D54 (Or.inr (wd hw 36 rfl)) (ty := .boolean) (by decide)) (D54 (Or.inr (wd hw 38 rfl)) (ty := .boolean) (by decide)) (D54 (Or.inr (wd hw 40 rfl)) (ty := .int) (by decide)) (D54 (Or.inr (wd hw 42 rfl)) (ty := .int) (by decide))) W54.warm (wd hw 31 rfl) (wd hw 28 rfl) (by decide) (by decide)) a54 (by rw [hml]; rfl) [(.ref a23), (.int b1), (.int b3), (.int p3), (.int p4)] [(.ref a54)] (lenOf pd4 rfl) rfl rfl (Nat.le_of_eq rfl) 279 (hb hby at_276) rfl (by decide) (by decide) (hws1 (Or.inr (by omega)) S54) ?_
                  intro v55 T55 h55 W55 K55 C55 Q55
                  have H55 := W55.here; have z55 := K55.1
                  obtain ⟨rfl, X55, F55_name, F55_closing, F55_empty, F55_line, F55_start⟩ := Q55
                  show Goes p e below (PostW s Z consts_1 h0 [] (Q0 Z cz p0 p1 p2 p3 p4 h0) room_1.cells room_1.slots) (T55.setTop (mkF m 279 #[.val (.int p0), .val (.int p1), .val (.int p2), .val (.int p3), .val (.int p4), .val (.int b1), .val (.int b3), .val (.int v5), .val (.int b6), .val (.int b8), .val (.int b10), .val (.int b12), .val (.int v14), .val (.int v15), .val (.int v16), .val (.int b17), .val (.int b18), .val (.int b19), .val (.ref a23), .val .null, .unset, .unset, .unset, .unset] [(.ref a54)]))
                  refine G.astore H55 hx 281 #[.val (.int p0), .val (.int p1), .val (.int p2), .val (.int p3), .val (.int p4), .val (.int b1), .val (.int b3), .val (.int v5), .val (.int b6), .val (.int b8), .val (.int b10), .val (.int b12), .val (.int v14), .val (.int v15), .val (.int v16), .val (.int b17), .val (.int b18), .val (.int b19), .val (.ref a23), .val .null, .val (.ref a54), .unset, .unset, .unset] (hb hby at_279) rfl rfl rfl ?_
                  refine G.aload H55 hx 283 (hb hby at_281) rfl rfl rfl ?_
                  refine G.aload H55 hx 285 (hb hby at_283) rfl rfl rfl ?_
                  refine Wk.virtual W55 hx hoZ (y := (⟨"com/example/ken/ken/collection/TagScanner$Tag", "closes", "(Ljava/lang/String;)Z"⟩ : MethodName)) (z := (⟨"com/example/ken/ken/collection/TagScanner$Tag", "closes", "(Ljava/lang/String;)Z"⟩ : MethodName)) (wd hw 43 rfl) (wd hw 44 rfl) (wd hw 46 rfl) (wd hw 45 rfl) (W55.nf (wd hw 46 rfl)) (by decide) (Wd := 0) (CN.back (rmOpN l Z a0 hw a54 a23 b1 (mkL v5 v14 v15 v16) h55 W55.old X55 F55_closing F55_name ((Sv23.ext E54).keepX K55 (ala ⟨neA (by omega), NB.exa A54 (wd hw 27 rfl)⟩ (ala0)))) W55.warm (wd hw 47 rfl) (wd hw 28 rfl) (by decide) (by decide)) X55 (by rw [hml]; rfl) [.null] [] (lenOf pd5 rfl) rfl rfl (Nat.le_of_eq rfl) 288 (hb hby at_285) rfl (by decide) (by decide) (fun _ q => nomatch q) ?_
                  intro v56 T56 h56 W56 K56 C56 Q56
                  have H56 := W56.here; have z56 := K56.1
                  obtain rfl : _ = _ := Q56
                  show Goes p e below (PostW s Z consts_1 h0 [] (Q0 Z cz p0 p1 p2 p3 p4 h0) room_1.cells room_1.slots) (T56.setTop (mkF m 288 #[.val (.int p0), .val (.int p1), .val (.int p2), .val (.int p3), .val (.int p4), .val (.int b1), .val (.int b3), .val (.int v5), .val (.int b6), .val (.int b8), .val (.int b10), .val (.int b12), .val (.int v14), .val (.int v15), .val (.int v16), .val (.int b17), .val (.int b18), .val (.int b19), .val (.ref a23), .val .null, .val (.ref a54), .unset, .unset, .unset] [(.int (0 : Int32))]))
                  refine G.istoreX H56 hx 290 #[.val (.int p0), .val (.int p1), .val (.int p2), .val (.int p3), .val (.int p4), .val (.int b1), .val (.int b3), .val (.int v5), .val (.int b6), .val (.int b8), .val (.int b10), .val (.int b12), .val (.int v14), .val (.int v15), .val (.int v16), .val (.int b17), .val (.int b18), .val (.int b19), .val (.ref a23), .val .null, .val (.ref a54), .val (.int (0 : Int32)), .unset, .unset] (hb hby at_288) rfl rfl ?_
                  refine G.iload H56 hx 292 (hb hby at_290) rfl rfl ?_
                  refine G.iload H56 hx 294 (hb hby at_292) rfl rfl ?_
                  have J341_58 : ∀ (b57 : Int32) (hb57 : b57 = (if v5 = b8 then (if v5 < (1 : Int32) then (if v5 < (2 : Int32) then (if v5 < (3 : Int32) then (1 : Int32) else (if v16 = b19 then (1 : Int32) else (0 : Int32))) else (if v15 = b18 then (if v5 < (3 : Int32) then (1 : Int32) else (if v16 = b19 then (1 : Int32) else (0 : Int32))) else (0 : Int32))) else (if v14 = b17 then (if v5 < (2 : Int32) then (if v5 < (3 : Int32) then (1 : Int32) else (if v16 = b19 then (1 : Int32) else (0 : Int32))) else (if v15 = b18 then (if v5 < (3 : Int32) then (1 : Int32) else (if v16 = b19 then (1 : Int32) else (0 : Int32))) else (0 : Int32))) else (0 : Int32))) else (0 : Int32))), Goes p e below (PostW s Z consts_1 h0 [] (Q0 Z cz p0 p1 p2 p3 p4 h0) room_1.cells room_1.slots) (T56.setTop (mkF m 341 #[.val (.int p0), .val (.int p1), .val (.int p2), .val (.int p3), .val (.int p4), .val (.int b1), .val (.int b3), .val (.int v5), .val (.int b6), .val (.int b8), .val (.int b10), .val (.int b12), .val (.int v14), .val (.int v15), .val (.int v16), .val (.int b17), .val (.int b18), .val (.int b19), .val (.ref a23), .val .null, .val (.ref a54), .val (.int (0 : Int32)), .unset, .unset] [(.int b57)])) := by
                    intro b57 hb57
                    refine G.istoreX H56 hx 343 #[.val (.int p0), .val (.int p1), .val (.int p2), .val (.int p3), .val (.int p4), .val (.int b1), .val (.int b3), .val (.int v5), .val (.int b6), .val (.int b8), .val (.int b10), .val (.int b12), .val (.int v14), .val (.int v15), .val (.int v16), .val (.int b17), .val (.int b18), .val (.int b19), .val (.ref a23), .val .null, .val (.ref a54), .val (.int (0 : Int32)), .val (.int b57), .unset] (hb hby at_341) rfl rfl ?_
                    refine G.iload H56 hx 345 (hb hby at_343) rfl rfl ?_
                    refine G.ifY H56 hx 362 (hb hby at_345) (zne c243_24).2 (by decide) rfl ?_
                    refine G.iconst H56 hx 363 (0 : Int32) (hb hby at_362) rfl rfl ?_
                    refine G.istoreX H56 hx 365 #[.val (.int p0), .val (.int p1), .val (.int p2), .val (.int p3), .val (.int p4), .val (.int b1), .val (.int b3), .val (.int v5), .val (.int b6), .val (.int b8), .val (.int b10), .val (.int b12), .val (.int v14), .val (.int v15), .val (.int v16), .val (.int b17), .val (.int b18), .val (.int b19), .val (.ref a23), .val .null, .val (.ref a54), .val (.int (0 : Int32)), .val (.int b57), .val (.int (0 : Int32))] (hb hby at_363) rfl rfl ?_
                    refine G.iload H56 hx 367 (hb hby at_365) rfl rfl ?_
                    refine G.iload H56 hx 369 (hb hby at_367) rfl rfl ?_
                    refine G.icmpN H56 hx 372 (hb hby at_369) (teq (by decide)).2 rfl ?_
                    refine G.iconst H56 hx 373 (1 : Int32) (hb hby at_372) rfl rfl ?_
                    refine G.goto H56 hx 377 (hb hby at_373) (by decide) rfl ?_
                    exact Wk.retNW W56 hx hEL (1 : Int32) (t := .boolean) rfl (by simp) hret hlk (hb hby at_377) (by decide) (by decide) rfl
                  by_cases c294_59 : v5 = b8
                  ·
                    refine G.icmpN H56 hx 297 (hb hby at_294) (teq c294_59).2 rfl ?_
                    refine G.iload H56 hx 299 (hb hby at_297) rfl rfl ?_
                    refine G.iconst H56 hx 300 (1 : Int32) (hb hby at_299) rfl rfl ?_
                    by_cases c300_60 : v5 < (1 : Int32)
                    ·
                      refine G.icmpY H56 hx 310 (hb hby at_300) (tlt c300_60).1 (by decide) rfl ?_
                      refine G.iload H56 hx 312 (hb hby at_310) rfl rfl ?_
                      refine G.iconst H56 hx 313 (2 : Int32) (hb hby at_312) rfl rfl ?_
                      by_cases c313_61 : v5 < (2 : Int32)
                      ·
                        refine G.icmpY H56 hx 323 (hb hby at_313) (tlt c313_61).1 (by decide) rfl ?_
                        refine G.iload H56 hx 325 (hb hby at_323) rfl rfl ?_
                        refine G.iconst H56 hx 326 (3 : Int32) (hb hby at_325) rfl rfl ?_
                        by_cases c326_62 : v5 < (3 : Int32)
                        ·
                          refine G.icmpY H56 hx 336 (hb hby at_326) (tlt c326_62).1 (by decide) rfl ?_
                          refine G.iconst H56 hx 337 (1 : Int32) (hb hby at_336) rfl rfl ?_
                          refine G.goto H56 hx 341 (hb hby at_337) (by decide) rfl ?_
                          exact J341_58 _ (by simp only [if_pos c294_59, if_pos c300_60, if_pos c313_61, if_pos c326_62])
                        ·
                          refine G.icmpN H56 hx 329 (hb hby at_326) (flt c326_62).1 rfl ?_
                          refine G.iload H56 hx 331 (hb hby at_329) rfl rfl ?_
                          refine G.iload H56 hx 333 (hb hby at_331) rfl rfl ?_
                          by_cases c333_63 : v16 = b19
                          ·
                            refine G.icmpN H56 hx 336 (hb hby at_333) (teq c333_63).2 rfl ?_
                            refine G.iconst H56 hx 337 (1 : Int32) (hb hby at_336) rfl rfl ?_
                            refine G.goto H56 hx 341 (hb hby at_337) (by decide) rfl ?_
                            exact J341_58 _ (by simp only [if_pos c294_59, if_pos c300_60, if_pos c313_61, if_neg c326_62, if_pos c333_63])
                          ·
                            refine G.icmpY H56 hx 340 (hb hby at_333) (feq c333_63).2 (by decide) rfl ?_
                            refine G.iconst H56 hx 341 (0 : Int32) (hb hby at_340) rfl rfl ?_
                            exact J341_58 _ (by simp only [if_pos c294_59, if_pos c300_60, if_pos c313_61, if_neg c326_62, if_neg c333_63])
                      ·
                        refine G.icmpN H56 hx 316 (hb hby at_313) (flt c313_61).1 rfl ?_
                        refine G.iload H56 hx 318 (hb hby at_316) rfl rfl ?_
                        refine G.iload H56 hx 320 (hb hby at_318) rfl rfl ?_
                        by_cases c320_64 : v15 = b18
                        ·
                          refine G.icmpN H56 hx 323 (hb hby at_320) (teq c320_64).2 rfl ?_
                          refine G.iload H56 hx 325 (hb hby at_323) rfl rfl ?_
                          refine G.iconst H56 hx 326 (3 : Int32) (hb hby at_325) rfl rfl ?_
                          by_cases c326_65 : v5 < (3 : Int32)
                          ·
                            refine G.icmpY H56 hx 336 (hb hby at_326) (tlt c326_65).1 (by decide) rfl ?_
                            refine G.iconst H56 hx 337 (1 : Int32) (hb hby at_336) rfl rfl ?_
                            refine G.goto H56 hx 341 (hb hby at_337) (by decide) rfl ?_
                            exact J341_58 _ (by simp only [if_pos c294_59, if_pos c300_60, if_neg c313_61, if_pos c320_64, if_pos c326_65])
                          ·
                            refine G.icmpN H56 hx 329 (hb hby at_326) (flt c326_65).1 rfl ?_
                            refine G.iload H56 hx 331 (hb hby at_329) rfl rfl ?_
                            refine G.iload H56 hx 333 (hb hby at_331) rfl rfl ?_
                            by_cases c333_66 : v16 = b19
                            ·
                              refine G.icmpN H56 hx 336 (hb hby at_333) (teq c333_66).2 rfl ?_
                              refine G.iconst H56 hx 337 (1 : Int32) (hb hby at_336) rfl rfl ?_
                              refine G.goto H56 hx 341 (hb hby at_337) (by decide) rfl ?_
                              exact J341_58 _ (by simp only [if_pos c294_59, if_pos c300_60, if_neg c313_61, if_pos c320_64, if_neg c326_65, if_pos c333_66])
                            ·
                              refine G.icmpY H56 hx 340 (hb hby at_333) (feq c333_66).2 (by decide) rfl ?_
                              refine G.iconst H56 hx 341 (0 : Int32) (hb hby at_340) rfl rfl ?_
                              exact J341_58 _ (by simp only [if_pos c294_59, if_pos c300_60, if_neg c313_61, if_pos c320_64, if_neg c326_65, if_neg c333_66])
                        ·
                          refine G.icmpY H56 hx 340 (hb hby at_320) (feq c320_64).2 (by decide) rfl ?_
                          refine G.iconst H56 hx 341 (0 : Int32) (hb hby at_340) rfl rfl ?_
                          exact J341_58 _ (by simp only [if_pos c294_59, if_pos c300_60, if_neg c313_61, if_neg c320_64])
                    ·
                      refine G.icmpN H56 hx 303 (hb hby at_300) (flt c300_60).1 rfl ?_
                      refine G.iload H56 hx 305 (hb hby at_303) rfl rfl ?_
                      refine G.iload H56 hx 307 (hb hby at_305) rfl rfl ?_
                      by_cases c307_67 : v14 = b17
                      ·
                        refine G.icmpN H56 hx 310 (hb hby at_307) (teq c307_67).2 rfl ?_
                        refine G.iload H56 hx 312 (hb hby at_310) rfl rfl ?_
                        refine G.iconst H56 hx 313 (2 : Int32) (hb hby at_312) rfl rfl ?_
                        by_cases c313_68 : v5 < (2 : Int32)
                        ·
                          refine G.icmpY H56 hx 323 (hb hby at_313) (tlt c313_68).1 (by decide) rfl ?_
                          refine G.iload H56 hx 325 (hb hby at_323) rfl rfl ?_
                          refine G.iconst H56 hx 326 (3 : Int32) (hb hby at_325) rfl rfl ?_
                          by_cases c326_69 : v5 < (3 : Int32)
                          ·
                            refine G.icmpY H56 hx 336 (hb hby at_326) (tlt c326_69).1 (by decide) rfl ?_
                            refine G.iconst H56 hx 337 (1 : Int32) (hb hby at_336) rfl rfl ?_
                            refine G.goto H56 hx 341 (hb hby at_337) (by decide) rfl ?_
                            exact J341_58 _ (by simp only [if_pos c294_59, if_neg c300_60, if_pos c307_67, if_pos c313_68, if_pos c326_69])
                          ·
                            refine G.icmpN H56 hx 329 (hb hby at_326) (flt c326_69).1 rfl ?_
                            refine G.iload H56 hx 331 (hb hby at_329) rfl rfl ?_
                            refine G.iload H56 hx 333 (hb hby at_331) rfl rfl ?_
                            by_cases c333_70 : v16 = b19
                            ·
                              refine G.icmpN H56 hx 336 (hb hby at_333) (teq c333_70).2 rfl ?_
                              refine G.iconst H56 hx 337 (1 : Int32) (hb hby at_336) rfl rfl ?_
                              refine G.goto H56 hx 341 (hb hby at_337) (by decide) rfl ?_
                              exact J341_58 _ (by simp only [if_pos c294_59, if_neg c300_60, if_pos c307_67, if_pos c313_68, if_neg c326_69, if_pos c333_70])
                            ·
                              refine G.icmpY H56 hx 340 (hb hby at_333) (feq c333_70).2 (by decide) rfl ?_
                              refine G.iconst H56 hx 341 (0 : Int32) (hb hby at_340) rfl rfl ?_
                              exact J341_58 _ (by simp only [if_pos c294_59, if_neg c300_60, if_pos c307_67, if_pos c313_68, if_neg c326_69, if_neg c333_70])
                        ·
                          refine G.icmpN H56 hx 316 (hb hby at_313) (flt c313_68).1 rfl ?_
                          refine G.iload H56 hx 318 (hb hby at_316) rfl rfl ?_
                          refine G.iload H56 hx 320 (hb hby at_318) rfl rfl ?_
                          by_cases c320_71 : v15 = b18
                          ·
                            refine G.icmpN H56 hx 323 (hb hby at_320) (teq c320_71).2 rfl ?_
                            refine G.iload H56 hx 325 (hb hby at_323) rfl rfl ?_
                            refine G.iconst H56 hx 326 (3 : Int32) (hb hby at_325) rfl rfl ?_
                            by_cases c326_72 : v5 < (3 : Int32)
                            ·
                              refine G.icmpY H56 hx 336 (hb hby at_326) (tlt c326_72).1 (by decide) rfl ?_
                              refine G.iconst H56 hx 337 (1 : Int32) (hb hby at_336) rfl rfl ?_
                              refine G.goto H56 hx 341 (hb hby at_337) (by decide) rfl ?_
                              exact J341_58 _ (by simp only [if_pos c294_59, if_neg c300_60, if_pos c307_67, if_neg c313_68, if_pos c320_71, if_pos c326_72])
                            ·
                              refine G.icmpN H56 hx 329 (hb hby at_326) (flt c326_72).1 rfl ?_
                              refine G.iload H56 hx 331 (hb hby at_329) rfl rfl ?_
                              refine G.iload H56 hx 333 (hb hby at_331) rfl rfl ?_
                              by_cases c333_73 : v16 = b19
                              ·
                                refine G.icmpN H56 hx 336 (hb hby at_333) (teq c333_73).2 rfl ?_
                                refine G.iconst H56 hx 337 (1 : Int32) (hb hby at_336) rfl rfl ?_
                                refine G.goto H56 hx 341 (hb hby at_337) (by decide) rfl ?_
                                exact J341_58 _ (by simp only [if_pos c294_59, if_neg c300_60, if_pos c307_67, if_neg c313_68, if_pos c320_71, if_neg c326_72, if_pos c333_73])
                              ·
                                refine G.icmpY H56 hx 340 (hb hby at_333) (feq c333_73).2 (by decide) rfl ?_
                                refine G.iconst H56 hx 341 (0 : Int32) (hb hby at_340) rfl rfl ?_
                                exact J341_58 _ (by simp only [if_pos c294_59, if_neg c300_60, if_pos c307_67, if_neg c313_68, if_pos c320_71, if_neg c326_72, if_neg c333_73])
                          ·
                            refine G.icmpY H56 hx 340 (hb hby at_320) (feq c320_71).2 (by decide) rfl ?_
                            refine G.iconst H56 hx 341 (0 : Int32) (hb hby at_340) rfl rfl ?_
                            exact J341_58 _ (by simp only [if_pos c294_59, if_neg c300_60, if_pos c307_67, if_neg c313_68, if_neg c320_71])
                      ·
                        refine G.icmpY H56 hx 340 (hb hby at_307) (feq c307_67).2 (by decide) rfl ?_
                        refine G.iconst H56 hx 341 (0 : Int32) (hb hby at_340) rfl rfl ?_
                        exact J341_58 _ (by simp only [if_pos c294_59, if_neg c300_60, if_neg c307_67])
                  ·
                    refine G.icmpY H56 hx 340 (hb hby at_294) (feq c294_59).2 (by decide) rfl ?_
                    refine G.iconst H56 hx 341 (0 : Int32) (hb hby at_340) rfl rfl ?_
                    exact J341_58 _ (by simp only [if_neg c294_59])
              by_cases c132_74 : b10 = 0
              ·
                refine G.ifY H0 hx 198 (hb hby at_132) (zeq c132_74).1 (by decide) rfl ?_
                refine G.iloadN H0 hx 199 (hb hby at_198) rfl rfl ?_
                refine G.sipush H0 hx 202 (255 : Int32) (hb hby at_199) rfl rfl ?_
                refine G.iand H0 hx 203 (hb hby at_202) rfl ?_
                refine G.i2c H0 hx 204 (hb hby at_203) rfl ?_
                refine G.istoreX H0 hx 206 #[.val (.int p0), .val (.int p1), .val (.int p2), .val (.int p3), .val (.int p4), .val (.int b1), .val (.int b3), .val (.int v5), .val (.int b6), .val (.int b8), .val (.int b10), .val (.int b12), .val (.int v14), .val (.int v15), .val (.int v16), .val (.int (OwnKit.i2c (p2 &&& (255 : Int32)))), .unset, .unset, .unset, .unset, .unset, .unset, .unset, .unset] (hb hby at_204) rfl rfl ?_
                refine G.iloadN H0 hx 207 (hb hby at_206) rfl rfl ?_
                refine G.bipush H0 hx 209 (8 : Int32) (hb hby at_207) rfl rfl ?_
                refine G.iushr H0 hx 210 (hb hby at_209) rfl ?_
                refine G.sipush H0 hx 213 (255 : Int32) (hb hby at_210) rfl rfl ?_
                refine G.iand H0 hx 214 (hb hby at_213) rfl ?_
                refine G.i2c H0 hx 215 (hb hby at_214) rfl ?_
                refine G.istoreX H0 hx 217 #[.val (.int p0), .val (.int p1), .val (.int p2), .val (.int p3), .val (.int p4), .val (.int b1), .val (.int b3), .val (.int v5), .val (.int b6), .val (.int b8), .val (.int b10), .val (.int b12), .val (.int v14), .val (.int v15), .val (.int v16), .val (.int (OwnKit.i2c (p2 &&& (255 : Int32)))), .val (.int (OwnKit.i2c ((XT.ushr p2 (8 : Int32)) &&& (255 : Int32)))), .unset, .unset, .unset, .unset, .unset, .unset, .unset] (hb hby at_215) rfl rfl ?_
                refine G.iloadN H0 hx 218 (hb hby at_217) rfl rfl ?_
                refine G.bipush H0 hx 220 (16 : Int32) (hb hby at_218) rfl rfl ?_
                refine G.iushr H0 hx 221 (hb hby at_220) rfl ?_
                refine G.sipush H0 hx 224 (255 : Int32) (hb hby at_221) rfl rfl ?_
                refine G.iand H0 hx 225 (hb hby at_224) rfl ?_
                refine G.i2c H0 hx 226 (hb hby at_225) rfl ?_
                refine G.istoreX H0 hx 228 #[.val (.int p0), .val (.int p1), .val (.int p2), .val (.int p3), .val (.int p4), .val (.int b1), .val (.int b3), .val (.int v5), .val (.int b6), .val (.int b8), .val (.int b10), .val (.int b12), .val (.int v14), .val (.int v15), .val (.int v16), .val (.int (OwnKit.i2c (p2 &&& (255 : Int32)))), .val (.int (OwnKit.i2c ((XT.ushr p2 (8 : Int32)) &&& (255 : Int32)))), .val (.int (OwnKit.i2c ((XT.ushr p2 (16 : Int32)) &&& (255 : Int32)))), .unset, .unset, .unset, .unset, .unset, .unset] (hb hby at_226) rfl rfl ?_
                exact J228_22 _ (by simp only [if_pos c132_74]) _ (by simp only [if_pos c132_74]) _ (by simp only [if_pos c132_74]) _ (Or.inl rfl) _ (Or.inl rfl)
              ·
                refine G.ifN H0 hx 135 (hb hby at_132) (zne c132_74).1 rfl ?_
                refine G.iloadN H0 hx 136 (hb hby at_135) rfl rfl ?_
                refine G.bipush H0 hx 138 (24 : Int32) (hb hby at_136) rfl rfl ?_
                refine G.iushr H0 hx 139 (hb hby at_138) rfl ?_
                refine G.iconst H0 hx 140 (3 : Int32) (hb hby at_139) rfl rfl ?_
                refine G.iand H0 hx 141 (hb hby at_140) rfl ?_
                refine G.istoreX H0 hx 143 #[.val (.int p0), .val (.int p1), .val (.int p2), .val (.int p3), .val (.int p4), .val (.int b1), .val (.int b3), .val (.int v5), .val (.int b6), .val (.int b8), .val (.int b10), .val (.int b12), .val (.int v14), .val (.int v15), .val (.int v16), .unset, .unset, .unset, .val (.int ((XT.ushr p2 (24 : Int32)) &&& (3 : Int32))), .unset, .unset, .unset, .unset, .unset] (hb hby at_141) rfl rfl ?_
                refine G.iloadN H0 hx 144 (hb hby at_143) rfl rfl ?_
                refine G.sipush H0 hx 147 (255 : Int32) (hb hby at_144) rfl rfl ?_
                refine G.iand H0 hx 148 (hb hby at_147) rfl ?_
                refine G.i2c H0 hx 149 (hb hby at_148) rfl ?_
                refine G.istoreX H0 hx 151 #[.val (.int p0), .val (.int p1), .val (.int p2), .val (.int p3), .val (.int p4), .val (.int b1), .val (.int b3), .val (.int v5), .val (.int b6), .val (.int b8), .val (.int b10), .val (.int b12), .val (.int v14), .val (.int v15), .val (.int v16), .unset, .unset, .unset, .val (.int ((XT.ushr p2 (24 : Int32)) &&& (3 : Int32))), .val (.int (OwnKit.i2c (p2 &&& (255 : Int32)))), .unset, .unset, .unset, .unset] (hb hby at_149) rfl rfl ?_
                refine G.iload H0 hx 153 (hb hby at_151) rfl rfl ?_
                by_cases c153_75 : ((XT.ushr p2 (24 : Int32)) &&& (3 : Int32)) = 0
                ·
                  refine G.ifN H0 hx 156 (hb hby at_153) (zeq c153_75).2 rfl ?_
                  refine G.iload H0 hx 158 (hb hby at_156) rfl rfl ?_
                  refine G.goto H0 hx 163 (hb hby at_158) (by decide) rfl ?_
                  refine G.istoreX H0 hx 165 #[.val (.int p0), .val (.int p1), .val (.int p2), .val (.int p3), .val (.int p4), .val (.int b1), .val (.int b3), .val (.int v5), .val (.int b6), .val (.int b8), .val (.int b10), .val (.int b12), .val (.int v14), .val (.int v15), .val (.int v16), .val (.int (OwnKit.i2c (p2 &&& (255 : Int32)))), .unset, .unset, .val (.int ((XT.ushr p2 (24 : Int32)) &&& (3 : Int32))), .val (.int (OwnKit.i2c (p2 &&& (255 : Int32)))), .unset, .unset, .unset, .unset] (hb hby at_163) rfl rfl ?_
                  refine G.iload H0 hx 167 (hb hby at_165) rfl rfl ?_
                  refine G.iconst H0 hx 168 (1 : Int32) (hb hby at_167) rfl rfl ?_
                  by_cases c168_76 : ((XT.ushr p2 (24 : Int32)) &&& (3 : Int32)) = (1 : Int32)
                  ·
                    refine G.icmpN H0 hx 171 (hb hby at_168) (teq c168_76).2 rfl ?_
                    refine G.iload H0 hx 173 (hb hby at_171) rfl rfl ?_
                    refine G.goto H0 hx 178 (hb hby at_173) (by decide) rfl ?_
                    refine G.istoreX H0 hx 180 #[.val (.int p0), .val (.int p1), .val (.int p2), .val (.int p3), .val (.int p4), .val (.int b1), .val (.int b3), .val (.int v5), .val (.int b6), .val (.int b8), .val (.int b10), .val (.int b12), .val (.int v14), .val (.int v15), .val (.int v16), .val (.int (OwnKit.i2c (p2 &&& (255 : Int32)))), .val (.int (OwnKit.i2c (p2 &&& (255 : Int32)))), .unset, .val (.int ((XT.ushr p2 (24 : Int32)) &&& (3 : Int32))), .val (.int (OwnKit.i2c (p2 &&& (255 : Int32)))), .unset, .unset, .unset, .unset] (hb hby at_178) rfl rfl ?_
                    refine G.iload H0 hx 182 (hb hby at_180) rfl rfl ?_
                    refine G.iconst H0 hx 183 (2 : Int32) (hb hby at_182) rfl rfl ?_
                    by_cases c183_77 : ((XT.ushr p2 (24 : Int32)) &&& (3 : Int32)) = (2 : Int32)
                    ·
                      refine G.icmpN H0 hx 186 (hb hby at_183) (teq c183_77).2 rfl ?_
                      refine G.iload H0 hx 188 (hb hby at_186) rfl rfl ?_
                      refine G.goto H0 hx 193 (hb hby at_188) (by decide) rfl ?_
                      refine G.istoreX H0 hx 195 #[.val (.int p0), .val (.int p1), .val (.int p2), .val (.int p3), .val (.int p4), .val (.int b1), .val (.int b3), .val (.int v5), .val (.int b6), .val (.int b8), .val (.int b10), .val (.int b12), .val (.int v14), .val (.int v15), .val (.int v16), .val (.int (OwnKit.i2c (p2 &&& (255 : Int32)))), .val (.int (OwnKit.i2c (p2 &&& (255 : Int32)))), .val (.int (OwnKit.i2c (p2 &&& (255 : Int32)))), .val (.int ((XT.ushr p2 (24 : Int32)) &&& (3 : Int32))), .val (.int (OwnKit.i2c (p2 &&& (255 : Int32)))), .unset, .unset, .unset, .unset] (hb hby at_193) rfl rfl ?_
                      refine G.goto H0 hx 228 (hb hby at_195) (by decide) rfl ?_
                      exact J228_22 _ (by simp only [if_neg c132_74, if_pos c153_75, if_pos c168_76, if_pos c183_77]) _ (by simp only [if_neg c132_74, if_pos c153_75, if_pos c168_76, if_pos c183_77]) _ (by simp only [if_neg c132_74, if_pos c153_75, if_pos c168_76, if_pos c183_77]) _ (Or.inr ⟨_, rfl, rfl⟩) _ (Or.inr ⟨_, rfl, rfl⟩)
                    ·
                      refine G.icmpY H0 hx 191 (hb hby at_183) (feq c183_77).2 (by decide) rfl ?_
                      refine G.iload H0 hx 193 (hb hby at_191) rfl rfl ?_
                      refine G.istoreX H0 hx 195 #[.val (.int p0), .val (.int p1), .val (.int p2), .val (.int p3), .val (.int p4), .val (.int b1), .val (.int b3), .val (.int v5), .val (.int b6), .val (.int b8), .val (.int b10), .val (.int b12), .val (.int v14), .val (.int v15), .val (.int v16), .val (.int (OwnKit.i2c (p2 &&& (255 : Int32)))), .val (.int (OwnKit.i2c (p2 &&& (255 : Int32)))), .val (.int v16), .val (.int ((XT.ushr p2 (24 : Int32)) &&& (3 : Int32))), .val (.int (OwnKit.i2c (p2 &&& (255 : Int32)))), .unset, .unset, .unset, .unset] (hb hby at_193) rfl rfl ?_
                      refine G.goto H0 hx 228 (hb hby at_195) (by decide) rfl ?_
                      exact J228_22 _ (by simp only [if_neg c132_74, if_pos c153_75, if_pos c168_76, if_neg c183_77]) _ (by simp only [if_neg c132_74, if_pos c153_75, if_pos c168_76, if_neg c183_77]) _ (by simp only [if_neg c132_74, if_pos c153_75, if_pos c168_76, if_neg c183_77]) _ (Or.inr ⟨_, rfl, rfl⟩) _ (Or.inr ⟨_, rfl, rfl⟩)
                  ·
                    refine G.icmpY H0 hx 176 (hb hby at_168) (feq c168_76).2 (by decide) rfl ?_
                    refine G.iload H0 hx 178 (hb hby at_176) rfl rfl ?_
                    refine G.istoreX H0 hx 180 #[.val (.int p0), .val (.int p1), .val (.int p2), .val (.int p3), .val (.int p4), .val (.int b1), .val (.int b3), .val (.int v5), .val (.int b6), .val (.int b8), .val (.int b10), .val (.int b12), .val (.int v14), .val (.int v15), .val (.int v16), .val (.int (OwnKit.i2c (p2 &&& (255 : Int32)))), .val (.int v15), .unset, .val (.int ((XT.ushr p2 (24 : Int32)) &&& (3 : Int32))), .val (.int (OwnKit.i2c (p2 &&& (255 : Int32)))), .unset, .unset, .unset, .unset] (hb hby at_178) rfl rfl ?_
                    refine G.iload H0 hx 182 (hb hby at_180) rfl rfl ?_
                    refine G.iconst H0 hx 183 (2 : Int32) (hb hby at_182) rfl rfl ?_
                    by_cases c183_78 : ((XT.ushr p2 (24 : Int32)) &&& (3 : Int32)) = (2 : Int32)
                    ·
                      refine G.icmpN H0 hx 186 (hb hby at_183) (teq c183_78).2 rfl ?_
                      refine G.iload H0 hx 188 (hb hby at_186) rfl rfl ?_
                      refine G.goto H0 hx 193 (hb hby at_188) (by decide) rfl ?_
                      refine G.istoreX H0 hx 195 #[.val (.int p0), .val (.int p1), .val (.int p2), .val (.int p3), .val (.int p4), .val (.int b1), .val (.int b3), .val (.int v5), .val (.int b6), .val (.int b8), .val (.int b10), .val (.int b12), .val (.int v14), .val (.int v15), .val (.int v16), .val (.int (OwnKit.i2c (p2 &&& (255 : Int32)))), .val (.int v15), .val (.int (OwnKit.i2c (p2 &&& (255 : Int32)))), .val (.int ((XT.ushr p2 (24 : Int32)) &&& (3 : Int32))), .val (.int (OwnKit.i2c (p2 &&& (255 : Int32)))), .unset, .unset, .unset, .unset] (hb hby at_193) rfl rfl ?_
                      refine G.goto H0 hx 228 (hb hby at_195) (by decide) rfl ?_
                      exact J228_22 _ (by simp only [if_neg c132_74, if_pos c153_75, if_neg c168_76, if_pos c183_78]) _ (by simp only [if_neg c132_74, if_pos c153_75, if_neg c168_76, if_pos c183_78]) _ (by simp only [if_neg c132_74, if_pos c153_75, if_neg c168_76, if_pos c183_78]) _ (Or.inr ⟨_, rfl, rfl⟩) _ (Or.inr ⟨_, rfl, rfl⟩)
                    ·
                      refine G.icmpY H0 hx 191 (hb hby at_183) (feq c183_78).2 (by decide) rfl ?_
                      refine G.iload H0 hx 193 (hb hby at_191) rfl rfl ?_
                      refine G.istoreX H0 hx 195 #[.val (.int p0), .val (.int p1), .val (.int p2), .val (.int p3), .val (.int p4), .val (.int b1), .val (.int b3), .val (.int v5), .val (.int b6), .val (.int b8), .val (.int b10), .val (.int b12), .val (.int v14), .val (.int v15), .val (.int v16), .val (.int (OwnKit.i2c (p2 &&& (255 : Int32)))), .val (.int v15), .val (.int v16), .val (.int ((XT.ushr p2 (24 : Int32)) &&& (3 : Int32))), .val (.int (OwnKit.i2c (p2 &&& (255 : Int32)))), .unset, .unset, .unset, .unset] (hb hby at_193) rfl rfl ?_
                      refine G.goto H0 hx 228 (hb hby at_195) (by decide) rfl ?_
                      exact J228_22 _ (by simp only [if_neg c132_74, if_pos c153_75, if_neg c168_76, if_neg c183_78]) _ (by simp only [if_neg c132_74, if_pos c153_75, if_neg c168_76, if_neg c183_78]) _ (by simp only [if_neg c132_74, if_pos c153_75, if_neg c168_76, if_neg c183_78]) _ (Or.inr ⟨_, rfl, rfl⟩) _ (Or.inr ⟨_, rfl, rfl⟩)
                ·
                  refine G.ifY H0 hx 161 (hb hby at_153) (zne c153_75).2 (by decide) rfl ?_
                  refine G.iload H0 hx 163 (hb hby at_161) rfl rfl ?_
                  refine G.istoreX H0 hx 165 #[.val (.int p0), .val (.int p1), .val (.int p2), .val (.int p3), .val (.int p4), .val (.int b1), .val (.int b3), .val (.int v5), .val (.int b6), .val (.int b8), .val (.int b10), .val (.int b12), .val (.int v14), .val (.int v15), .val (.int v16), .val (.int v14), .unset, .unset, .val (.int ((XT.ushr p2 (24 : Int32)) &&& (3 : Int32))), .val (.int (OwnKit.i2c (p2 &&& (255 : Int32)))), .unset, .unset, .unset, .unset] (hb hby at_163) rfl rfl ?_
                  refine G.iload H0 hx 167 (hb hby at_165) rfl rfl ?_
                  refine G.iconst H0 hx 168 (1 : Int32) (hb hby at_167) rfl rfl ?_
                  by_cases c168_79 : ((XT.ushr p2 (24 : Int32)) &&& (3 : Int32)) = (1 : Int32)
                  ·
                    refine G.icmpN H0 hx 171 (hb hby at_168) (teq c168_79).2 rfl ?_
                    refine G.iload H0 hx 173 (hb hby at_171) rfl rfl ?_
                    refine G.goto H0 hx 178 (hb hby at_173) (by decide) rfl ?_
                    refine G.istoreX H0 hx 180 #[.val (.int p0), .val (.int p1), .val (.int p2), .val (.int p3), .val (.int p4), .val (.int b1), .val (.int b3), .val (.int v5), .val (.int b6), .val (.int b8), .val (.int b10), .val (.int b12), .val (.int v14), .val (.int v15), .val (.int v16), .val (.int v14), .val (.int (OwnKit.i2c (p2 &&& (255 : Int32)))), .unset, .val (.int ((XT.ushr p2 (24 : Int32)) &&& (3 : Int32))), .val (.int (OwnKit.i2c (p2 &&& (255 : Int32)))), .unset, .unset, .unset, .unset] (hb hby at_178) rfl rfl ?_
                    refine G.iload H0 hx 182 (hb hby at_180) rfl rfl ?_
                    refine G.iconst H0 hx 183 (2 : Int32) (hb hby at_182) rfl rfl ?_
                    by_cases c183_80 : ((XT.ushr p2 (24 : Int32)) &&& (3 : Int32)) = (2 : Int32)
                    ·
                      refine G.icmpN H0 hx 186 (hb hby at_183) (teq c183_80).2 rfl ?_
                      refine G.iload H0 hx 188 (hb hby at_186) rfl rfl ?_
                      refine G.goto H0 hx 193 (hb hby at_188) (by decide) rfl ?_
                      refine G.istoreX H0 hx 195 #[.val (.int p0), .val (.int p1), .val (.int p2), .val (.int p3), .val (.int p4), .val (.int b1), .val (.int b3), .val (.int v5), .val (.int b6), .val (.int b8), .val (.int b10), .val (.int b12), .val (.int v14), .val (.int v15), .val (.int v16), .val (.int v14), .val (.int (OwnKit.i2c (p2 &&& (255 : Int32)))), .val (.int (OwnKit.i2c (p2 &&& (255 : Int32)))), .val (.int ((XT.ushr p2 (24 : Int32)) &&& (3 : Int32))), .val (.int (OwnKit.i2c (p2 &&& (255 : Int32)))), .unset, .unset, .unset, .unset] (hb hby at_193) rfl rfl ?_
                      refine G.goto H0 hx 228 (hb hby at_195) (by decide) rfl ?_
                      exact J228_22 _ (by simp only [if_neg c132_74, if_neg c153_75, if_pos c168_79, if_pos c183_80]) _ (by simp only [if_neg c132_74, if_neg c153_75, if_pos c168_79, if_pos c183_80]) _ (by simp only [if_neg c132_74, if_neg c153_75, if_pos c168_79, if_pos c183_80]) _ (Or.inr ⟨_, rfl, rfl⟩) _ (Or.inr ⟨_, rfl, rfl⟩)
                    ·
                      refine G.icmpY H0 hx 191 (hb hby at_183) (feq c183_80).2 (by decide) rfl ?_
                      refine G.iload H0 hx 193 (hb hby at_191) rfl rfl ?_
                      refine G.istoreX H0 hx 195 #[.val (.int p0), .val (.int p1), .val (.int p2), .val (.int p3), .val (.int p4), .val (.int b1), .val (.int b3), .val (.int v5), .val (.int b6), .val (.int b8), .val (.int b10), .val (.int b12), .val (.int v14), .val (.int v15), .val (.int v16), .val (.int v14), .val (.int (OwnKit.i2c (p2 &&& (255 : Int32)))), .val (.int v16), .val (.int ((XT.ushr p2 (24 : Int32)) &&& (3 : Int32))), .val (.int (OwnKit.i2c (p2 &&& (255 : Int32)))), .unset, .unset, .unset, .unset] (hb hby at_193) rfl rfl ?_
                      refine G.goto H0 hx 228 (hb hby at_195) (by decide) rfl ?_
                      exact J228_22 _ (by simp only [if_neg c132_74, if_neg c153_75, if_pos c168_79, if_neg c183_80]) _ (by simp only [if_neg c132_74, if_neg c153_75, if_pos c168_79, if_neg c183_80]) _ (by simp only [if_neg c132_74, if_neg c153_75, if_pos c168_79, if_neg c183_80]) _ (Or.inr ⟨_, rfl, rfl⟩) _ (Or.inr ⟨_, rfl, rfl⟩)
                  ·
                    refine G.icmpY H0 hx 176 (hb hby at_168) (feq c168_79).2 (by decide) rfl ?_
                    refine G.iload H0 hx 178 (hb hby at_176) rfl rfl ?_
                    refine G.istoreX H0 hx 180 #[.val (.int p0), .val (.int p1), .val (.int p2), .val (.int p3), .val (.int p4), .val (.int b1), .val (.int b3), .val (.int v5), .val (.int b6), .val (.int b8), .val (.int b10), .val (.int b12), .val (.int v14), .val (.int v15), .val (.int v16), .val (.int v14), .val (.int v15), .unset, .val (.int ((XT.ushr p2 (24 : Int32)) &&& (3 : Int32))), .val (.int (OwnKit.i2c (p2 &&& (255 : Int32)))), .unset, .unset, .unset, .unset] (hb hby at_178) rfl rfl ?_
                    refine G.iload H0 hx 182 (hb hby at_180) rfl rfl ?_
                    refine G.iconst H0 hx 183 (2 : Int32) (hb hby at_182) rfl rfl ?_
                    by_cases c183_81 : ((XT.ushr p2 (24 : Int32)) &&& (3 : Int32)) = (2 : Int32)
                    ·
                      refine G.icmpN H0 hx 186 (hb hby at_183) (teq c183_81).2 rfl ?_
                      refine G.iload H0 hx 188 (hb hby at_186) rfl rfl ?_
                      refine G.goto H0 hx 193 (hb hby at_188) (by decide) rfl ?_
                      refine G.istoreX H0 hx 195 #[.val (.int p0), .val (.int p1), .val (.int p2), .val (.int p3), .val (.int p4), .val (.int b1), .val (.int b3), .val (.int v5), .val (.int b6), .val (.int b8), .val (.int b10), .val (.int b12), .val (.int v14), .val (.int v15), .val (.int v16), .val (.int v14), .val (.int v15), .val (.int (OwnKit.i2c (p2 &&& (255 : Int32)))), .val (.int ((XT.ushr p2 (24 : Int32)) &&& (3 : Int32))), .val (.int (OwnKit.i2c (p2 &&& (255 : Int32)))), .unset, .unset, .unset, .unset] (hb hby at_193) rfl rfl ?_
                      refine G.goto H0 hx 228 (hb hby at_195) (by decide) rfl ?_
                      exact J228_22 _ (by simp only [if_neg c132_74, if_neg c153_75, if_neg c168_79, if_pos c183_81]) _ (by simp only [if_neg c132_74, if_neg c153_75, if_neg c168_79, if_pos c183_81]) _ (by simp only [if_neg c132_74, if_neg c153_75, if_neg c168_79, if_pos c183_81]) _ (Or.inr ⟨_, rfl, rfl⟩) _ (Or.inr ⟨_, rfl, rfl⟩)
                    ·
                      refine G.icmpY H0 hx 191 (hb hby at_183) (feq c183_81).2 (by decide) rfl ?_
                      refine G.iload H0 hx 193 (hb hby at_191) rfl rfl ?_
                      refine G.istoreX H0 hx 195 #[.val (.int p0), .val (.int p1), .val (.int p2), .val (.int p3), .val (.int p4), .val (.int b1), .val (.int b3), .val (.int v5), .val (.int b6), .val (.int b8), .val (.int b10), .val (.int b12), .val (.int v14), .val (.int v15), .val (.int v16), .val (.int v14), .val (.int v15), .val (.int v16), .val (.int ((XT.ushr p2 (24 : Int32)) &&& (3 : Int32))), .val (.int (OwnKit.i2c (p2 &&& (255 : Int32)))), .unset, .unset, .unset, .unset] (hb hby at_193) rfl rfl ?_
                      refine G.goto H0 hx 228 (hb hby at_195) (by decide) rfl ?_
                      exact J228_22 _ (by simp only [if_neg c132_74, if_neg c153_75, if_neg c168_79, if_neg c183_81]) _ (by simp only [if_neg c132_74, if_neg c153_75, if_neg c168_79, if_neg c183_81]) _ (by simp only [if_neg c132_74, if_neg c153_75, if_neg c168_79, if_neg c183_81]) _ (Or.inr ⟨_, rfl, rfl⟩) _ (Or.inr ⟨_, rfl, rfl⟩)
            by_cases c90_82 : ((XT.ushr p0 (8 : Int32)) &&& (7 : Int32)) = (7 : Int32)
            ·
              refine G.icmpN H0 hx 93 (hb hby at_90) (teq c90_82).2 rfl ?_
              refine G.iconst H0 hx 94 (1 : Int32) (hb hby at_93) rfl rfl ?_
              refine G.goto H0 hx 98 (hb hby at_94) (by decide) rfl ?_
              exact J98_13 _ (by simp only [if_pos c90_82])
            ·
              refine G.icmpY H0 hx 97 (hb hby at_90) (feq c90_82).2 (by decide) rfl ?_
              refine G.iconst H0 hx 98 (0 : Int32) (hb hby at_97) rfl rfl ?_
              exact J98_13 _ (by simp only [if_neg c90_82])
          by_cases c71_83 : ((XT.ushr p0 (7 : Int32)) &&& (1 : Int32)) = 0
          ·
            refine G.ifN H0 hx 74 (hb hby at_71) (zeq c71_83).2 rfl ?_
            refine G.iconst H0 hx 75 (1 : Int32) (hb hby at_74) rfl rfl ?_
            refine G.goto H0 hx 79 (hb hby at_75) (by decide) rfl ?_
            exact J79_11 _ (by simp only [if_pos c71_83])
          ·
            refine G.ifY H0 hx 78 (hb hby at_71) (zne c71_83).2 (by decide) rfl ?_
            refine G.iconst H0 hx 79 (0 : Int32) (hb hby at_78) rfl rfl ?_
            exact J79_11 _ (by simp only [if_neg c71_83])
        by_cases c50_84 : b6 = 0
        ·
          refine G.ifY H0 hx 58 (hb hby at_50) (zeq c50_84).1 (by decide) rfl ?_
          refine G.iloadN H0 hx 59 (hb hby at_58) rfl rfl ?_
          refine G.iconst H0 hx 60 (5 : Int32) (hb hby at_59) rfl rfl ?_
          refine G.iushr H0 hx 61 (hb hby at_60) rfl ?_
          refine G.iconst H0 hx 62 (3 : Int32) (hb hby at_61) rfl rfl ?_
          refine G.iand H0 hx 63 (hb hby at_62) rfl ?_
          exact J63_9 _ (by simp only [if_pos c50_84])
        ·
          refine G.ifN H0 hx 53 (hb hby at_50) (zne c50_84).1 rfl ?_
          refine G.iload H0 hx 55 (hb hby at_53) rfl rfl ?_
          refine G.goto H0 hx 63 (hb hby at_55) (by decide) rfl ?_
          exact J63_9 _ (by simp only [if_neg c50_84])
      by_cases c38_85 : ((XT.ushr p0 (4 : Int32)) &&& (1 : Int32)) = 0
      ·
        refine G.ifN H0 hx 41 (hb hby at_38) (zeq c38_85).2 rfl ?_
        refine G.iconst H0 hx 42 (1 : Int32) (hb hby at_41) rfl rfl ?_
        refine G.goto H0 hx 46 (hb hby at_42) (by decide) rfl ?_
        exact J46_7 _ (by simp only [if_pos c38_85])
      ·
        refine G.ifY H0 hx 45 (hb hby at_38) (zne c38_85).2 (by decide) rfl ?_
        refine G.iconst H0 hx 46 (0 : Int32) (hb hby at_45) rfl rfl ?_
        exact J46_7 _ (by simp only [if_neg c38_85])
    by_cases c16_86 : (p0 &&& (2 : Int32)) = 0
    ·
      refine G.ifY H0 hx 23 (hb hby at_16) (zeq c16_86).1 (by decide) rfl ?_
      refine G.iconst H0 hx 24 (0 : Int32) (hb hby at_23) rfl rfl ?_
      exact J24_4 _ (by simp only [if_pos c16_86])
    ·
      refine G.ifN H0 hx 19 (hb hby at_16) (zne c16_86).1 rfl ?_
      refine G.iconst H0 hx 20 (1 : Int32) (hb hby at_19) rfl rfl ?_
      refine G.goto H0 hx 24 (hb hby at_20) (by decide) rfl ?_
      exact J24_4 _ (by simp only [if_neg c16_86])
  by_cases c3_87 : (p0 &&& (1 : Int32)) = 0
  ·
    refine G.ifY H0 hx 10 (hb hby at_3) (zeq c3_87).1 (by decide) rfl ?_
    refine G.iconst H0 hx 11 (0 : Int32) (hb hby at_10) rfl rfl ?_
    exact J11_2 _ (by simp only [if_pos c3_87])
  ·
    refine G.ifN H0 hx 6 (hb hby at_3) (zne c3_87).1 rfl ?_
    refine G.iconst H0 hx 7 (1 : Int32) (hb hby at_6) rfl rfl ?_
    refine G.goto H0 hx 11 (hb hby at_7) (by decide) rfl ?_
    exact J11_2 _ (by simp only [if_neg c3_87])
set_option maxRecDepth 65536 in
set_option maxHeartbeats 40000000 in
theorem comes_1 {Post : Tables → Env → Array Value → State → Outcome → State → Prop} (hpost : ∀ tb e args s v u, (limb_1_1.after args s (.returned v) u = true ∧ limb_1_2.after args s (.returned v) u = true ∧ True) → ReturnedEndW s (.returned v) u (Jvm.fieldLocs frame_1_writes args s ++ Jvm.arrayLocs frame_1_arrays args s ++ Jvm.staticLocs frame_1_statics s) 24 1152 → Post tb e args s (.returned v) u) :
    ArmFor flags0 classFile x code maxLocals ret World_1 tables_1 room_1 Calls_1 rest_1 Pre_1 Post := by
  intro l hfl _ _ p e ha hc hk s m args below hf hA hF happ hP
  obtain ⟨hcalls, hrest, hpre⟩ := hP
  obtain ⟨-, -, -, hnamed, -, -, -, hat⟩ := (Spec.applies_iff hf).mp happ
  obtain ⟨hg, hn⟩ := and_e (Cond.before_iff.mp (show (Jvm.Cond.and given_1 narrow_1).before args s = true from hpre))
  obtain ⟨hcount, hg0⟩ := and_e hg
  obtain ⟨ha0, hg1⟩ := and_e hg0
  obtain ⟨ha1, hg2⟩ := and_e hg1
  obtain ⟨ha2, hg3⟩ := and_e hg2
  obtain ⟨ha3, hg4⟩ := and_e hg3
  obtain ⟨w0, w1, w2, w3, w4, rfl⟩ : ∃ w0 w1 w2 w3 w4 : Value, args = #[w0, w1, w2, w3, w4] := by
    have hs : args.size = 5 := by simpa [Cond.value, given_1] using hcount
    obtain ⟨L⟩ := args
    match L, hs with
    | [w0, w1, w2, w3, w4], _ => exact ⟨w0, w1, w2, w3, w4, rfl⟩
  have hw := fun d (hd : d ∈ tables_1) => atoms_spec (ws := Jvm.Cond.code x code maxLocals ret :: tables_1) hat d (List.mem_cons_of_mem _ hd)
  obtain ⟨hsets, hown0⟩ := atoms_of _ (rest_1_c_eq ▸ (show rest_1_c.before _ s = true from hrest))
  have n5 := not_v (Cond.before_iff.mp (hsets _ (List.mem_of_getElem? (i := 2) rfl)))
  obtain ⟨i0, ei0⟩ := is_v ha0
  obtain rfl : w0 = (.int i0) := Option.some.inj ei0
  obtain ⟨i1, ei1⟩ := is_v ha1
  obtain rfl : w1 = (.int i1) := Option.some.inj ei1
  obtain ⟨i2, ei2⟩ := is_v ha2
  obtain rfl : w2 = (.int i2) := Option.some.inj ei2
  obtain ⟨i3, ei3⟩ := is_v ha3
  obtain rfl : w3 = (.int i3) := Option.some.inj ei3
  obtain ⟨i4, ei4⟩ := is_v hg4
  obtain rfl : w4 = (.int i4) := Option.some.inj ei4
  obtain ⟨cz, ecz⟩ := is_v (Cond.before_iff.mp (hsets _ (List.mem_of_getElem? (i := 1) rfl)))
  have hCS : Sta s s.heap "java/lang/String" "COMPACT_STRINGS" "Z" (.int cz) := Sta.start ecz (Or.inl (hsets _ (List.mem_of_getElem? (i := 0) rfl)))
  obtain ⟨fm, efm, hfm⟩ := isR_v (Cond.before_iff.mp (hsets _ (List.mem_of_getElem? (i := 8) rfl)))
  have hFM : Sta s s.heap "jdk/internal/util/Preconditions" "SIOOBE_FORMATTER" "Ljava/util/function/BiFunction;" fm := Sta.start efm (Or.inl (hsets _ (List.mem_of_getElem? (i := 7) rfl)))
  have hcz : ¬ cz = (0 : Int32) := gotF (Cond.eq_ints ecz (Term.int_eval (0))) n5
  have hCH : CHv s consts_1 s.vm s.heap := CHv.start (elw hw) (fun p hp => hcalls.1 p hp) (hsets _ (List.mem_of_getElem? (i := 2) rfl)) (wsStr hw _ (by simp [Bundle.stringAtoms])) (wsStr hw _ (by simp [Bundle.stringAtoms, Bundle.sN]))
  obtain ⟨n, o, h1, h2, h3, _, L, rfl, ⟨N, -, rfl⟩, -, hq⟩ := rm0 l s _ hw cz i0 i1 i2 i3 i4 s.heap (ext_refl _) hCS hcz p e ha hc hk s m _ below hf ((Spec.applies_iff_loose hf).mp happ).1 ⟨rfl, State.Warmed39.refl s, rfl, hCH, fun _ q => nomatch q⟩ trivial
  refine ⟨n, _, h1, h2, h3, hpost _ _ _ _ _ _ ⟨Cond.after_iff.mpr rfl, Cond.after_iff.mpr (eq_i res_at (Term.int_eval (1)) rfl), trivial⟩ ⟨hq.1, hq.2.1, hq.2.2.1, (hq.2.2.2.sift fun y hy => Or.inr (N y hy)).mono (by decide) (by decide)⟩⟩
theorem main_1_1 : Claimed_1_1 := comes_1 fun _ _ _ _ _ _ h hF => ⟨h.1, hF⟩
theorem main_1_2 : Claimed_1_2 := comes_1 fun _ _ _ _ _ _ h hF => ⟨h.2.1, hF⟩
end Jvm.Pilot.@@N@@
namespace Jvm.Pilot.@@N@@
open Jvm Jvm.ClassFile Sem Op Lib Jvm.Free Jvm.Stand Jvm.Pilot.@@N@@.Jvm.D
/-! MADE BY PROGRAM (witnessworld.py) out of the Statement's table words and the real class files: 20 classes; the members and pool entries that the words name. The judged class is class 1, her method 2. -/
namespace start1
open Jvm.ClassFile
def u (s : String) : CpInfo := .utf8 (stringToUtf16 s)
/-- a pool by its gaps: so many unusable entries, then the entry; so many at the end -/
def gap : Nat → List CpInfo → List CpInfo
  | 0, r => r
  | n + 1, r => .unusable :: gap n r
def poolList (es : List (Nat × CpInfo)) (last : Nat) : List CpInfo := es.foldr (fun e r => gap e.1 (e.2 :: r)) (gap last [])
def pool (es : List (Nat × CpInfo)) (last : Nat) : Array CpInfo := ⟨poolList es last⟩
def fileOf (pool : Array CpInfo) (this : Nat) (attrs : Array Attribute := #[]) (ms : Array MethodInfo := #[]) (fl : Nat := 33) (sup : Nat := 0) (ifs : Array Nat := #[]) (fds : Array FieldInfo := #[]) : ClassFile where
  minorVersion := 0
  majorVersion := 65
  constantPool := pool
  accessFlags := fl
  thisClass := this
  superClass := sup
  interfaces := ifs
  fields := fds
  methods := ms
  attributes := attrs
def plain (name : String) (sup : Option ClassId) : Class where
  name := name
  kind := .ordinary
  loader := none
  accessFlags := 33
  super := sup
  interfaces := #[]
  cf := none
  fields := #[]
  methods := #[]
  instanceTypes := #[]
  staticTypes := #[]
  resolved := #[]
  callSites := []
  init := .initialized
  statics := none
  mirror := none

def pool0 : Array CpInfo := pool [(5, u "<init>"), (0, u "()V"), (1, .class_ 10), (1, u "java/lang/Object")] 113

def k0c0 : Code := { maxStack := 0, maxLocals := 1, code := object_method_1_code, exceptionTable := #[], attributes := #[] }
def k0m0 : Method := { name := "<init>", desc := "()V", sig := { parameters := [], returnType := none }, accessFlags := 1, code := some k0c0 }
/-- java/lang/Object -/
def k0 : Class := { plain "java/lang/Object" none with
  accessFlags := 33
  interfaces := #[]
  cf := some (fileOf pool0 8 #[] #[{ accessFlags := 1, nameIndex := 5, descriptorIndex := 6, attributes := #[] }] 33 0 #[] #[])
  fields := #[]
  methods := #[k0m0]
  instanceTypes := #[]
  staticTypes := #[]
  resolved := Array.replicate 124 none
  statics := none }

def pool1 : Array CpInfo := pool [(2, .class_ 4), (1, u "java/lang/Object"), (0, u "<init>"), (0, u "()V"), (0, .class_ 8), (0, u "java/lang/String"), (0, .methodref 7 10), (0, .nameAndType 5 11), (0, u "([C)V"), (0, .methodref 13 14), (0, .class_ 15), (0, .nameAndType 16 17), (0, u "com/example/ken/ken/collection/TagClosesPinLaw"), (0, u "str"), (0, u "(ICCC)Ljava/lang/String;"), (0, .class_ 19), (0, u "com/example/ken/ken/collection/TagScanner$Tag"), (0, .methodref 18 21), (0, .nameAndType 5 22), (0, u "(Ljava/lang/String;ZZII)V"), (0, .methodref 18 24), (0, .nameAndType 25 26), (0, u "closes"), (0, u "(Ljava/lang/String;)Z"), (3, u "law"), (0, u "(IIIII)Z")] 6

def k1m0 : Method := { name := "<init>", desc := "()V", sig := { parameters := [], returnType := none }, accessFlags := 1, code := none }
def k1c1 : Code := { maxStack := 6, maxLocals := 4, code := method_2_code, exceptionTable := #[], attributes := #[] }
def k1m1 : Method := { name := "str", desc := "(ICCC)Ljava/lang/String;", sig := { parameters := [.int, .char, .char, .char], returnType := some (.object "java/lang/String") }, accessFlags := 10, code := some k1c1 }
def k1c2 : Code := { maxStack := 7, maxLocals := 24, code := code, exceptionTable := #[], attributes := #[] }
def k1m2 : Method := { name := "law", desc := "(IIIII)Z", sig := { parameters := [.int, .int, .int, .int, .int], returnType := some .boolean }, accessFlags := 9, code := some k1c2 }
/-- com/example/ken/ken/collection/TagClosesPinLaw -/
def k1 : Class := { plain "com/example/ken/ken/collection/TagClosesPinLaw" (some 0) with
  accessFlags := 49
  interfaces := #[]
  cf := some (fileOf pool1 13 #[] #[{ accessFlags := 1, nameIndex := 5, descriptorIndex := 6, attributes := #[] }, { accessFlags := 10, nameIndex := 16, descriptorIndex := 17, attributes := #[] }, { accessFlags := 9, nameIndex := 30, descriptorIndex := 31, attributes := #[] }] 49 2 #[] #[])
  fields := #[]
  methods := #[k1m0, k1m1, k1m2]
  instanceTypes := #[]
  staticTypes := #[]
  resolved := Array.replicate 38 none
  statics := none }

def pool2 : Array CpInfo := pool [(1, .class_ 2), (0, u "java/io/Serializable"), (0, .class_ 4), (0, u "java/lang/Object")] 2

/-- java/io/Serializable -/
def k2 : Class := { plain "java/io/Serializable" (some 0) with
  accessFlags := 1537
  interfaces := #[]
  cf := some (fileOf pool2 1 #[] #[] 1537 3 #[] #[])
  fields := #[]
  methods := #[]
  instanceTypes := #[]
  staticTypes := #[]
  resolved := Array.replicate 7 none
  statics := none }

def pool3 : Array CpInfo := pool [(1, .class_ 2), (0, u "java/lang/Comparable"), (0, .class_ 4), (0, u "java/lang/Object")] 7

/-- java/lang/Comparable -/
def k3 : Class := { plain "java/lang/Comparable" (some 0) with
  accessFlags := 1537
  interfaces := #[]
  cf := some (fileOf pool3 1 #[] #[] 1537 3 #[] #[])
  fields := #[]
  methods := #[]
  instanceTypes := #[]
  staticTypes := #[]
  resolved := Array.replicate 12 none
  statics := none }

def pool4 : Array CpInfo := pool [(2, .class_ 4), (1, u "java/lang/CharSequence"), (42, .class_ 48), (0, u "java/lang/CharSequence$1CodePointIterator"), (10, .class_ 60), (0, u "java/lang/CharSequence$1CharIterator"), (5, .class_ 67), (0, u "java/lang/Object")] 63

/-- java/lang/CharSequence -/
def k4 : Class := { plain "java/lang/CharSequence" (some 0) with
  accessFlags := 1537
  interfaces := #[]
  cf := some (fileOf pool4 2 #[.nestMembers #[47, 59]] #[] 1537 66 #[] #[])
  fields := #[]
  methods := #[]
  instanceTypes := #[]
  staticTypes := #[]
  resolved := Array.replicate 131 none
  statics := none }

def pool5 : Array CpInfo := pool [(1, .class_ 2), (0, u "java/lang/constant/Constable"), (0, .class_ 4), (0, u "java/lang/Object")] 6

/-- java/lang/constant/Constable -/
def k5 : Class := { plain "java/lang/constant/Constable" (some 0) with
  accessFlags := 1537
  interfaces := #[]
  cf := some (fileOf pool5 1 #[] #[] 1537 3 #[] #[])
  fields := #[]
  methods := #[]
  instanceTypes := #[]
  staticTypes := #[]
  resolved := Array.replicate 11 none
  statics := none }

def pool6 : Array CpInfo := pool [(1, .class_ 2), (0, u "java/lang/constant/ConstantDesc"), (0, .class_ 4), (0, u "java/lang/Object")] 32

/-- java/lang/constant/ConstantDesc -/
def k6 : Class := { plain "java/lang/constant/ConstantDesc" (some 0) with
  accessFlags := 1537
  interfaces := #[]
  cf := some (fileOf pool6 1 #[] #[] 1537 3 #[] #[])
  fields := #[]
  methods := #[]
  instanceTypes := #[]
  staticTypes := #[]
  resolved := Array.replicate 37 none
  statics := none }

def pool7 : Array CpInfo := pool [(1, .methodref 2 3), (0, .class_ 4), (0, .nameAndType 5 6), (0, u "java/lang/Object"), (0, u "<init>"), (0, u "()V"), (0, .string 8), (0, u ""), (0, .fieldref 10 11), (0, .class_ 12), (0, .nameAndType 13 14), (0, u "java/lang/String"), (0, u "value"), (0, u "[B"), (0, .fieldref 10 16), (0, .nameAndType 17 18), (0, u "coder"), (0, u "B"), (2, u "hash"), (0, u "I"), (2, u "hashIsZero"), (0, u "Z"), (0, .methodref 10 28), (0, .nameAndType 5 29), (0, u "([CIILjava/lang/Void;)V"), (8, .fieldref 10 39), (0, .nameAndType 40 26), (0, u "COMPACT_STRINGS"), (1, .class_ 44), (1, u "java/lang/StringUTF16"), (0, u "compress"), (1, .methodref 42 48), (0, .nameAndType 49 50), (0, u "coderFromArrayLen"), (0, u "([BI)B"), (56, .class_ 109), (1, u "java/lang/StringLatin1"), (67, .methodref 42 178), (0, .nameAndType 45 179), (0, u "([CII)[B"), (361, .methodref 107 542), (0, .nameAndType 543 544), (0, u "equals"), (0, u "([B[B)Z"), (28, u "(Ljava/lang/Object;)Z"), (1, .class_ 576), (0, u "java/lang/CharSequence"), (22, u "CASE_INSENSITIVE_ORDER"), (0, u "Ljava/util/Comparator;"), (409, u "([C)V"), (90, u "serialPersistentFields"), (0, u "[Ljava/io/ObjectStreamField;"), (0, .class_ 1104), (0, u "java/lang/String$CaseInsensitiveComparator"), (1, .class_ 1107), (0, u "java/io/Serializable"), (0, .class_ 1109), (0, u "java/lang/Comparable"), (0, .class_ 1111), (0, u "java/lang/constant/Constable"), (0, .class_ 1113), (0, u "java/lang/constant/ConstantDesc"), (2, u "serialVersionUID"), (0, u "J"), (3, u "REPL"), (0, u "C"), (2, u "LATIN1"), (1, u "UTF16")] 323

def k7m0 : Method := { name := "<init>", desc := "()V", sig := { parameters := [], returnType := none }, accessFlags := 1, code := none }
def k7c1 : Code := { maxStack := 5, maxLocals := 2, code := jdk_42_method_3_code, exceptionTable := #[], attributes := #[] }
def k7m1 : Method := { name := "<init>", desc := "([C)V", sig := { parameters := [(.array .char)], returnType := none }, accessFlags := 1, code := some k7c1 }
def k7c2 : Code := { maxStack := 2, maxLocals := 3, code := jdk_42_method_66_code, exceptionTable := #[], attributes := #[] }
def k7m2 : Method := { name := "equals", desc := "(Ljava/lang/Object;)Z", sig := { parameters := [(.object "java/lang/Object")], returnType := some .boolean }, accessFlags := 1, code := some k7c2 }
def k7c3 : Code := { maxStack := 4, maxLocals := 6, code := jdk_42_method_149_code, exceptionTable := #[], attributes := #[] }
def k7m3 : Method := { name := "<init>", desc := "([CIILjava/lang/Void;)V", sig := { parameters := [(.array .char), .int, .int, (.object "java/lang/Void")], returnType := none }, accessFlags := 2, code := some k7c3 }
/-- java/lang/String -/
def k7 : Class := { plain "java/lang/String" (some 0) with
  accessFlags := 49
  interfaces := #[2, 3, 4, 5, 6]
  cf := some (fileOf pool7 10 #[.nestMembers #[1103]] #[{ accessFlags := 1, nameIndex := 5, descriptorIndex := 6, attributes := #[] }, { accessFlags := 1, nameIndex := 5, descriptorIndex := 1010, attributes := #[] }, { accessFlags := 1, nameIndex := 543, descriptorIndex := 573, attributes := #[] }, { accessFlags := 2, nameIndex := 5, descriptorIndex := 29, attributes := #[] }] 49 2 #[1106, 1108, 575, 1110, 1112] #[{ accessFlags := 18, nameIndex := 13, descriptorIndex := 14, attributes := #[] }, { accessFlags := 18, nameIndex := 17, descriptorIndex := 18, attributes := #[] }, { accessFlags := 2, nameIndex := 21, descriptorIndex := 22, attributes := #[] }, { accessFlags := 2, nameIndex := 25, descriptorIndex := 26, attributes := #[] }, { accessFlags := 26, nameIndex := 1116, descriptorIndex := 1117, attributes := #[] }, { accessFlags := 24, nameIndex := 40, descriptorIndex := 26, attributes := #[] }, { accessFlags := 26, nameIndex := 1101, descriptorIndex := 1102, attributes := #[] }, { accessFlags := 26, nameIndex := 1121, descriptorIndex := 1122, attributes := #[] }, { accessFlags := 25, nameIndex := 599, descriptorIndex := 600, attributes := #[] }, { accessFlags := 24, nameIndex := 1125, descriptorIndex := 18, attributes := #[] }, { accessFlags := 24, nameIndex := 1127, descriptorIndex := 18, attributes := #[] }])
  fields := #[{ name := "value", type := (.array .byte), accessFlags := 18, slot := 0, constantValue := 0 }, { name := "coder", type := .byte, accessFlags := 18, slot := 1, constantValue := 0 }, { name := "hash", type := .int, accessFlags := 2, slot := 2, constantValue := 0 }, { name := "hashIsZero", type := .boolean, accessFlags := 2, slot := 3, constantValue := 0 }, { name := "serialVersionUID", type := .long, accessFlags := 26, slot := 0, constantValue := 0 }, { name := "COMPACT_STRINGS", type := .boolean, accessFlags := 24, slot := 1, constantValue := 0 }, { name := "serialPersistentFields", type := (.array (.object "java/io/ObjectStreamField")), accessFlags := 26, slot := 2, constantValue := 0 }, { name := "REPL", type := .char, accessFlags := 26, slot := 3, constantValue := 0 }, { name := "CASE_INSENSITIVE_ORDER", type := (.object "java/util/Comparator"), accessFlags := 25, slot := 4, constantValue := 0 }, { name := "LATIN1", type := .byte, accessFlags := 24, slot := 5, constantValue := 0 }, { name := "UTF16", type := .byte, accessFlags := 24, slot := 6, constantValue := 0 }]
  methods := #[k7m0, k7m1, k7m2, k7m3]
  instanceTypes := #[(.array .byte), .byte, .int, .boolean]
  staticTypes := #[.long, .boolean, (.array (.object "java/io/ObjectStreamField")), .char, (.object "java/util/Comparator"), .byte, .byte]
  resolved := Array.replicate 1451 none
  statics := some 0 }

def pool8 : Array CpInfo := pool [(1, .methodref 2 3), (0, .class_ 4), (0, .nameAndType 5 6), (0, u "java/lang/Object"), (0, u "<init>"), (0, u "()V"), (0, .fieldref 8 9), (0, .class_ 10), (0, .nameAndType 11 12), (0, u "com/example/ken/ken/collection/TagScanner$Tag"), (0, u "name"), (0, u "Ljava/lang/String;"), (0, .fieldref 8 14), (0, .nameAndType 15 16), (0, u "closing"), (0, u "Z"), (0, .fieldref 8 18), (0, .nameAndType 19 16), (0, u "empty"), (0, .fieldref 8 21), (0, .nameAndType 22 23), (0, u "line"), (0, u "I"), (0, .fieldref 8 25), (0, .nameAndType 26 23), (0, u "start"), (0, .methodref 28 29), (0, .class_ 30), (0, .nameAndType 31 32), (0, u "java/lang/String"), (0, u "equals"), (0, u "(Ljava/lang/Object;)Z"), (0, u "(Ljava/lang/String;ZZII)V"), (8, u "(Ljava/lang/String;)Z"), (1, u "closes"), (3, .class_ 49), (0, u "com/example/ken/ken/collection/TagScanner")] 2

def k8c0 : Code := { maxStack := 2, maxLocals := 6, code := prog_16_method_1_code, exceptionTable := #[], attributes := #[] }
def k8m0 : Method := { name := "<init>", desc := "(Ljava/lang/String;ZZII)V", sig := { parameters := [(.object "java/lang/String"), .boolean, .boolean, .int, .int], returnType := none }, accessFlags := 0, code := some k8c0 }
def k8c1 : Code := { maxStack := 2, maxLocals := 2, code := prog_16_method_8_code, exceptionTable := #[], attributes := #[] }
def k8m1 : Method := { name := "closes", desc := "(Ljava/lang/String;)Z", sig := { parameters := [(.object "java/lang/String")], returnType := some .boolean }, accessFlags := 0, code := some k8c1 }
/-- com/example/ken/ken/collection/TagScanner$Tag -/
def k8 : Class := { plain "com/example/ken/ken/collection/TagScanner$Tag" (some 0) with
  accessFlags := 48
  interfaces := #[]
  cf := some (fileOf pool8 8 #[.nestHost 48] #[{ accessFlags := 0, nameIndex := 5, descriptorIndex := 33, attributes := #[] }, { accessFlags := 0, nameIndex := 44, descriptorIndex := 42, attributes := #[] }] 48 2 #[] #[{ accessFlags := 18, nameIndex := 11, descriptorIndex := 12, attributes := #[] }, { accessFlags := 18, nameIndex := 15, descriptorIndex := 16, attributes := #[] }, { accessFlags := 18, nameIndex := 19, descriptorIndex := 16, attributes := #[] }, { accessFlags := 18, nameIndex := 22, descriptorIndex := 23, attributes := #[] }, { accessFlags := 18, nameIndex := 26, descriptorIndex := 23, attributes := #[] }])
  fields := #[{ name := "name", type := (.object "java/lang/String"), accessFlags := 18, slot := 0, constantValue := 0 }, { name := "closing", type := .boolean, accessFlags := 18, slot := 1, constantValue := 0 }, { name := "empty", type := .boolean, accessFlags := 18, slot := 2, constantValue := 0 }, { name := "line", type := .int, accessFlags := 18, slot := 3, constantValue := 0 }, { name := "start", type := .int, accessFlags := 18, slot := 4, constantValue := 0 }]
  methods := #[k8m0, k8m1]
  instanceTypes := #[(.object "java/lang/String"), .boolean, .boolean, .int, .int]
  staticTypes := #[]
  resolved := Array.replicate 52 none
  statics := none }

def pool9 : Array CpInfo := pool [(4, .class_ 6), (1, u "java/lang/Object"), (0, u "<init>"), (0, u "()V"), (5, .class_ 16), (1, u "java/lang/StringLatin1"), (104, u "$assertionsDisabled"), (0, u "Z"), (98, .class_ 223), (1, u "java/lang/StringLatin1$LinesSpliterator"), (57, u "equals"), (0, u "([B[B)Z"), (107, .class_ 391), (0, u "java/lang/StringLatin1$CharsSpliterator")] 3

def k9m0 : Method := { name := "<init>", desc := "()V", sig := { parameters := [], returnType := none }, accessFlags := 0, code := none }
def k9c1 : Code := { maxStack := 3, maxLocals := 3, code := jdk_43_method_13_code, exceptionTable := #[], attributes := #[] }
def k9m1 : Method := { name := "equals", desc := "([B[B)Z", sig := { parameters := [(.array .byte), (.array .byte)], returnType := some .boolean }, accessFlags := 9, code := some k9c1 }
/-- java/lang/StringLatin1 -/
def k9 : Class := { plain "java/lang/StringLatin1" (some 0) with
  accessFlags := 48
  interfaces := #[]
  cf := some (fileOf pool9 14 #[.nestMembers #[390, 221]] #[{ accessFlags := 0, nameIndex := 7, descriptorIndex := 8, attributes := #[] }, { accessFlags := 9, nameIndex := 281, descriptorIndex := 282, attributes := #[] }] 48 4 #[] #[{ accessFlags := 4120, nameIndex := 121, descriptorIndex := 122, attributes := #[] }])
  fields := #[{ name := "$assertionsDisabled", type := .boolean, accessFlags := 4120, slot := 0, constantValue := 0 }]
  methods := #[k9m0, k9m1]
  instanceTypes := #[]
  staticTypes := #[.boolean]
  resolved := Array.replicate 395 none
  statics := none }

def pool10 : Array CpInfo := pool [(6, .class_ 8), (1, u "java/lang/Object"), (0, u "<init>"), (0, u "()V"), (1, .class_ 14), (1, u "java/lang/StringUTF16"), (31, u "$assertionsDisabled"), (0, u "Z"), (13, u "HI_BYTE_SHIFT"), (0, u "I"), (2, u "LO_BYTE_SHIFT"), (49, .methodref 12 116), (0, .nameAndType 117 118), (0, u "compress"), (0, u "([CI[BII)I"), (3, u "([CII)[B"), (138, u "coderFromArrayLen"), (0, u "([BI)B"), (106, .class_ 371), (1, u "java/lang/StringUTF16$LinesSpliterator"), (58, u "MAX_LENGTH"), (196, .class_ 628), (0, u "java/lang/StringUTF16$CodePointsSpliterator"), (0, .class_ 630), (0, u "java/lang/StringUTF16$CharsSpliterator")] 4

def k10m0 : Method := { name := "<init>", desc := "()V", sig := { parameters := [], returnType := none }, accessFlags := 0, code := none }
def k10c1 : Code := { maxStack := 2, maxLocals := 2, code := jdk_52_method_15_code, exceptionTable := #[], attributes := #[] }
def k10m1 : Method := { name := "coderFromArrayLen", desc := "([BI)B", sig := { parameters := [(.array .byte), .int], returnType := some .byte }, accessFlags := 8, code := some k10c1 }
def k10c2 : Code := { maxStack := 5, maxLocals := 6, code := jdk_52_method_16_code, exceptionTable := #[], attributes := #[] }
def k10m2 : Method := { name := "compress", desc := "([CII)[B", sig := { parameters := [(.array .char), .int, .int], returnType := some (.array .byte) }, accessFlags := 9, code := some k10c2 }
def k10c3 : Code := { maxStack := 3, maxLocals := 7, code := jdk_52_method_21_code, exceptionTable := #[], attributes := #[] }
def k10m3 : Method := { name := "compress", desc := "([CI[BII)I", sig := { parameters := [(.array .char), .int, (.array .byte), .int, .int], returnType := some .int }, accessFlags := 9, code := some k10c3 }
/-- java/lang/StringUTF16 -/
def k10 : Class := { plain "java/lang/StringUTF16" (some 0) with
  accessFlags := 48
  interfaces := #[]
  cf := some (fileOf pool10 12 #[.nestMembers #[627, 629, 369]] #[{ accessFlags := 0, nameIndex := 9, descriptorIndex := 10, attributes := #[] }, { accessFlags := 8, nameIndex := 261, descriptorIndex := 262, attributes := #[] }, { accessFlags := 9, nameIndex := 117, descriptorIndex := 122, attributes := #[] }, { accessFlags := 9, nameIndex := 117, descriptorIndex := 118, attributes := #[] }] 48 6 #[] #[{ accessFlags := 26, nameIndex := 61, descriptorIndex := 62, attributes := #[] }, { accessFlags := 26, nameIndex := 65, descriptorIndex := 62, attributes := #[] }, { accessFlags := 24, nameIndex := 430, descriptorIndex := 62, attributes := #[] }, { accessFlags := 4120, nameIndex := 46, descriptorIndex := 47, attributes := #[] }])
  fields := #[{ name := "HI_BYTE_SHIFT", type := .int, accessFlags := 26, slot := 0, constantValue := 0 }, { name := "LO_BYTE_SHIFT", type := .int, accessFlags := 26, slot := 1, constantValue := 0 }, { name := "MAX_LENGTH", type := .int, accessFlags := 24, slot := 2, constantValue := 0 }, { name := "$assertionsDisabled", type := .boolean, accessFlags := 4120, slot := 3, constantValue := 0 }]
  methods := #[k10m0, k10m1, k10m2, k10m3]
  instanceTypes := #[]
  staticTypes := #[.int, .int, .int, .boolean]
  resolved := Array.replicate 635 none
  statics := none }

def pool11 : Array CpInfo := pool [(2, .class_ 4), (1, u "java/lang/Object"), (0, u "<init>"), (0, u "()V"), (17, .class_ 26), (1, u "jdk/internal/util/Preconditions"), (28, .class_ 56), (0, u "jdk/internal/util/Preconditions$4"), (57, .class_ 115), (0, u "jdk/internal/util/Preconditions$1"), (7, u "SIOOBE_FORMATTER"), (0, u "Ljava/util/function/BiFunction;"), (0, .class_ 126), (0, u "jdk/internal/util/Preconditions$2"), (3, u "AIOOBE_FORMATTER"), (0, .class_ 132), (0, u "jdk/internal/util/Preconditions$3"), (3, u "IOOBE_FORMATTER")] 57

def k11m0 : Method := { name := "<init>", desc := "()V", sig := { parameters := [], returnType := none }, accessFlags := 1, code := none }
/-- jdk/internal/util/Preconditions -/
def k11 : Class := { plain "jdk/internal/util/Preconditions" (some 0) with
  accessFlags := 33
  interfaces := #[]
  cf := some (fileOf pool11 24 #[.nestMembers #[55, 131, 125, 114]] #[{ accessFlags := 1, nameIndex := 5, descriptorIndex := 6, attributes := #[] }] 33 2 #[] #[{ accessFlags := 25, nameIndex := 123, descriptorIndex := 124, attributes := #[] }, { accessFlags := 25, nameIndex := 130, descriptorIndex := 124, attributes := #[] }, { accessFlags := 25, nameIndex := 136, descriptorIndex := 124, attributes := #[] }])
  fields := #[{ name := "SIOOBE_FORMATTER", type := (.object "java/util/function/BiFunction"), accessFlags := 25, slot := 0, constantValue := 0 }, { name := "AIOOBE_FORMATTER", type := (.object "java/util/function/BiFunction"), accessFlags := 25, slot := 1, constantValue := 0 }, { name := "IOOBE_FORMATTER", type := (.object "java/util/function/BiFunction"), accessFlags := 25, slot := 2, constantValue := 0 }]
  methods := #[k11m0]
  instanceTypes := #[]
  staticTypes := #[(.object "java/util/function/BiFunction"), (.object "java/util/function/BiFunction"), (.object "java/util/function/BiFunction")]
  resolved := Array.replicate 194 none
  statics := some 1 }

def pool12 : Array CpInfo := pool [(9, u "<init>"), (6, .class_ 18), (1, u "java/lang/Object"), (0, u "()V"), (1, .class_ 23), (1, u "jdk/internal/util/ArraysSupport"), (0, u "LOG2_ARRAY_LONG_INDEX_SCALE"), (0, u "I"), (2, u "U"), (0, u "Ljdk/internal/misc/Unsafe;"), (8, u "BIG_ENDIAN"), (0, u "Z"), (8, u "LOG2_BYTE_BIT_SIZE"), (4, u "LOG2_ARRAY_INT_INDEX_SCALE"), (54, u "JLA"), (0, u "Ljdk/internal/access/JavaLangAccess;"), (11, u "LOG2_ARRAY_BOOLEAN_INDEX_SCALE"), (9, u "LOG2_ARRAY_BYTE_INDEX_SCALE"), (5, u "LOG2_ARRAY_CHAR_INDEX_SCALE"), (5, u "LOG2_ARRAY_SHORT_INDEX_SCALE"), (18, u "LOG2_ARRAY_FLOAT_INDEX_SCALE"), (24, u "LOG2_ARRAY_DOUBLE_INDEX_SCALE"), (89, u "T_BOOLEAN"), (2, u "T_CHAR"), (1, u "T_FLOAT"), (1, u "T_DOUBLE"), (1, u "T_BYTE"), (1, u "T_SHORT"), (1, u "T_INT"), (1, u "T_LONG"), (1, u "SOFT_MAX_ARRAY_LENGTH")] 83

def k12m0 : Method := { name := "<init>", desc := "()V", sig := { parameters := [], returnType := none }, accessFlags := 2, code := none }
/-- jdk/internal/util/ArraysSupport -/
def k12 : Class := { plain "jdk/internal/util/ArraysSupport" (some 0) with
  accessFlags := 33
  interfaces := #[]
  cf := some (fileOf pool12 21 #[] #[{ accessFlags := 2, nameIndex := 9, descriptorIndex := 19, attributes := #[] }] 33 16 #[] #[{ accessFlags := 24, nameIndex := 28, descriptorIndex := 29, attributes := #[] }, { accessFlags := 26, nameIndex := 38, descriptorIndex := 39, attributes := #[] }, { accessFlags := 25, nameIndex := 121, descriptorIndex := 25, attributes := #[] }, { accessFlags := 25, nameIndex := 131, descriptorIndex := 25, attributes := #[] }, { accessFlags := 25, nameIndex := 137, descriptorIndex := 25, attributes := #[] }, { accessFlags := 25, nameIndex := 143, descriptorIndex := 25, attributes := #[] }, { accessFlags := 25, nameIndex := 53, descriptorIndex := 25, attributes := #[] }, { accessFlags := 25, nameIndex := 24, descriptorIndex := 25, attributes := #[] }, { accessFlags := 25, nameIndex := 162, descriptorIndex := 25, attributes := #[] }, { accessFlags := 25, nameIndex := 187, descriptorIndex := 25, attributes := #[] }, { accessFlags := 26, nameIndex := 48, descriptorIndex := 25, attributes := #[] }, { accessFlags := 25, nameIndex := 277, descriptorIndex := 25, attributes := #[] }, { accessFlags := 25, nameIndex := 280, descriptorIndex := 25, attributes := #[] }, { accessFlags := 25, nameIndex := 282, descriptorIndex := 25, attributes := #[] }, { accessFlags := 25, nameIndex := 284, descriptorIndex := 25, attributes := #[] }, { accessFlags := 25, nameIndex := 286, descriptorIndex := 25, attributes := #[] }, { accessFlags := 25, nameIndex := 288, descriptorIndex := 25, attributes := #[] }, { accessFlags := 25, nameIndex := 290, descriptorIndex := 25, attributes := #[] }, { accessFlags := 25, nameIndex := 292, descriptorIndex := 25, attributes := #[] }, { accessFlags := 26, nameIndex := 108, descriptorIndex := 109, attributes := #[] }, { accessFlags := 25, nameIndex := 294, descriptorIndex := 25, attributes := #[] }])
  fields := #[{ name := "U", type := (.object "jdk/internal/misc/Unsafe"), accessFlags := 24, slot := 0, constantValue := 0 }, { name := "BIG_ENDIAN", type := .boolean, accessFlags := 26, slot := 1, constantValue := 0 }, { name := "LOG2_ARRAY_BOOLEAN_INDEX_SCALE", type := .int, accessFlags := 25, slot := 2, constantValue := 0 }, { name := "LOG2_ARRAY_BYTE_INDEX_SCALE", type := .int, accessFlags := 25, slot := 3, constantValue := 0 }, { name := "LOG2_ARRAY_CHAR_INDEX_SCALE", type := .int, accessFlags := 25, slot := 4, constantValue := 0 }, { name := "LOG2_ARRAY_SHORT_INDEX_SCALE", type := .int, accessFlags := 25, slot := 5, constantValue := 0 }, { name := "LOG2_ARRAY_INT_INDEX_SCALE", type := .int, accessFlags := 25, slot := 6, constantValue := 0 }, { name := "LOG2_ARRAY_LONG_INDEX_SCALE", type := .int, accessFlags := 25, slot := 7, constantValue := 0 }, { name := "LOG2_ARRAY_FLOAT_INDEX_SCALE", type := .int, accessFlags := 25, slot := 8, constantValue := 0 }, { name := "LOG2_ARRAY_DOUBLE_INDEX_SCALE", type := .int, accessFlags := 25, slot := 9, constantValue := 0 }, { name := "LOG2_BYTE_BIT_SIZE", type := .int, accessFlags := 26, slot := 10, constantValue := 0 }, { name := "T_BOOLEAN", type := .int, accessFlags := 25, slot := 11, constantValue := 0 }, { name := "T_CHAR", type := .int, accessFlags := 25, slot := 12, constantValue := 0 }, { name := "T_FLOAT", type := .int, accessFlags := 25, slot := 13, constantValue := 0 }, { name := "T_DOUBLE", type := .int, accessFlags := 25, slot := 14, constantValue := 0 }, { name := "T_BYTE", type := .int, accessFlags := 25, slot := 15, constantValue := 0 }, { name := "T_SHORT", type := .int, accessFlags := 25, slot := 16, constantValue := 0 }, { name := "T_INT", type := .int, accessFlags := 25, slot := 17, constantValue := 0 }, { name := "T_LONG", type := .int, accessFlags := 25, slot := 18, constantValue := 0 }, { name := "JLA", type := (.object "jdk/internal/access/JavaLangAccess"), accessFlags := 26, slot := 19, constantValue := 0 }, { name := "SOFT_MAX_ARRAY_LENGTH", type := .int, accessFlags := 25, slot := 20, constantValue := 0 }]
  methods := #[k12m0]
  instanceTypes := #[]
  staticTypes := #[(.object "jdk/internal/misc/Unsafe"), .boolean, .int, .int, .int, .int, .int, .int, .int, .int, .int, .int, .int, .int, .int, .int, .int, .int, .int, (.object "jdk/internal/access/JavaLangAccess"), .int]
  resolved := Array.replicate 378 none
  statics := none }

def pool13 : Array CpInfo := pool [(1, u "java/lang/Cloneable"), (0, .class_ 1), (0, u "java/lang/Object"), (0, .class_ 3)] 3

/-- java/lang/Cloneable -/
def k13 : Class := { plain "java/lang/Cloneable" (some 0) with
  accessFlags := 1537
  interfaces := #[]
  cf := some (fileOf pool13 2 #[] #[] 1537 4 #[] #[])
  fields := #[]
  methods := #[]
  instanceTypes := #[]
  staticTypes := #[]
  resolved := Array.replicate 8 none
  statics := none }

/-- the primitive byte -/
def k14 : Class := { plain "byte" none with kind := .primitive 'B', accessFlags := 0x411 }
/-- [B -/
def k15 : Class := { plain "[B" (some 0) with kind := .array 14 .byte, interfaces := #[13, 2], accessFlags := 1041 }

/-- the primitive char -/
def k16 : Class := { plain "char" none with kind := .primitive 'C', accessFlags := 0x411 }
/-- [C -/
def k17 : Class := { plain "[C" (some 0) with kind := .array 16 .char, interfaces := #[13, 2], accessFlags := 1041 }

/-- the primitive int -/
def k18 : Class := { plain "int" none with kind := .primitive 'I', accessFlags := 0x411 }
/-- [I -/
def k19 : Class := { plain "[I" (some 0) with kind := .array 18 .int, interfaces := #[13, 2], accessFlags := 1041 }

def heap : Heap := #[{ cls := 7, slots := #[.long 0, .int 1, .null, .int 0, .null, .int 0, .int 0], vm := .statics 7 },
  { cls := 11, slots := #[.null, .null, .null], vm := .statics 11 }]
def classes : Array Class := #[k0, k1, k2, k3, k4, k5, k6, k7, k8, k9, k10, k11, k12, k13, k14, k15, k16, k17, k18, k19]
def interned : List (Array UInt16 × Addr) := []
def slotsUsed : Nat := 10
def theMethod : MethodId := ⟨1, 2⟩
def args0 : Array Value := #[.int 5, .int 5, .int 5, .int 5, .int 5]
def aboutOver (below : List Frame) : State where
  vm := { classes := classes, interned := interned.toArray }
  heap := heap
  slotsUsed := slotsUsed
  threads := #[{ frames := .invoking theMethod args0 :: below }]
def below0 : List Frame := [.native { method := ⟨0, 0⟩, args := #[] }]
def about1 : State := aboutOver below0
def p0 : Program := .bare "" "" ""
def e0 : Env := launch0.env 0 0 0
theorem w_frames : about1.frames = Frame.invoking theMethod args0 :: below0 := rfl
set_option maxRecDepth 65536 in
theorem w_args : argsFit about1.vm theMethod args0 = true := by decide +kernel
set_option maxRecDepth 65536 in
theorem w_heap : heapFits about1 = true := by decide +kernel
set_option maxRecDepth 65536 in
theorem w_runnable : about1.curStatus? = some .runnable := by decide +kernel
set_option maxRecDepth 65536 in
theorem w_alone : about1.alone = true := by decide +kernel
set_option maxRecDepth 65536 in
theorem w_named : about1.methodNamed? x = some theMethod := by decide +kernel
set_option maxRecDepth 65536 in
theorem w_hears : about1.hears theMethod below0 = true := by decide +kernel
set_option maxRecDepth 65536 in
theorem w_ripe : about1.ripe theMethod args0 below0 = true := by decide +kernel
theorem w_running : about1.status = .running := rfl
set_option maxRecDepth 65536 in
theorem w_room : about1.hasRoom e0.platform room_1 = true :=
  launch0.hasRoom_least _ room_1 (by decide +kernel) (by decide +kernel) (by decide +kernel) (by decide +kernel) (by decide +kernel) (by decide +kernel)
theorem allAtoms_all (ts : List Jvm.Cond) (a : Array Jvm.Value) (st : Jvm.State) : (allAtoms ts).before a st = ts.all (fun c => c.before a st) := by
  induction ts with
  | nil => rfl
  | cons c t ih =>
    show (Jvm.Cond.and c (allAtoms t)).before a st = _
    rw [Jvm.Cond.before_and, ih, List.all_cons]
def words1 : List Jvm.Cond := Jvm.Cond.code x code maxLocals ret :: tables_1
/-- a 'code' word, met by the world's own term for the bytes: nothing is compared byte by byte -/
theorem code_word {y : MethodName} {bytes : ByteArray} {mx : Nat} {rt : Option FieldType} {a : Array Value} {s : State} {m : MethodId} {meth : Method} {c : Code} (h1 : s.methodNamed? y = some m) (h2 : s.vm.method? m = some meth) (h3 : meth.code = some c) (h4 : c.code = bytes)
    (h5 : (c.maxLocals == mx && c.exceptionTable.isEmpty && decide (c.maxStack ≤ mostOperands) && decide (meth.sig.returnType = rt) && !meth.locks && decide (parseMethodDescriptor y.desc = some meth.sig)) = true) : (Jvm.Cond.code y bytes mx rt).before a s = true := by
  simp only [Bool.and_eq_true, beq_iff_eq, Bool.not_eq_true', decide_eq_true_eq] at h5
  obtain ⟨⟨⟨⟨⟨g1, g2⟩, g3⟩, g4⟩, g5⟩, g6⟩ := h5
  simp [Cond.before, Cond.holds, Cond.value, h1, h2, h3, h4, g1, g2, g3, g4, g5, g6]
def isCode : Jvm.Cond → Bool
  | .code _ _ _ _ => true
  | _ => false
theorem all_split {L : List Jvm.Cond} {P : Jvm.Cond → Bool} (h1 : L.all (fun c => isCode c || P c) = true) (h2 : ∀ c ∈ L.filter isCode, P c = true) : L.all P = true := by
  refine List.all_eq_true.mpr fun c hc => ?_
  have h := List.all_eq_true.mp h1 c hc
  rcases Bool.eq_false_or_eq_true (isCode c) with hi | hi
  · exact h2 c (List.mem_filter.mpr ⟨hc, hi⟩)
  · simpa [hi] using h
set_option maxRecDepth 65536 in
theorem w_c0 : (Jvm.Cond.code x code maxLocals ret).before args0 about1 = true := code_word (m := ⟨1, 2⟩) (meth := k1m2) (c := k1c2) (by decide +kernel) rfl rfl rfl (by decide +kernel)
set_option maxRecDepth 65536 in
theorem w_c1 : (Jvm.Cond.code ({ cls := "com/example/ken/ken/collection/TagClosesPinLaw", name := "str", desc := "(ICCC)Ljava/lang/String;" } : Jvm.MethodName) method_2_code (4 : Nat) (Option.some (Jvm.ClassFile.FieldType.object "java/lang/String"))).before args0 about1 = true := code_word (m := ⟨1, 1⟩) (meth := k1m1) (c := k1c1) (by decide +kernel) rfl rfl rfl (by decide +kernel)
set_option maxRecDepth 65536 in
theorem w_c2 : (Jvm.Cond.code ({ cls := "java/lang/String", name := "<init>", desc := "([C)V" } : Jvm.MethodName) jdk_42_method_3_code (2 : Nat) (Option.none : Option Jvm.ClassFile.FieldType)).before args0 about1 = true := code_word (m := ⟨7, 1⟩) (meth := k7m1) (c := k7c1) (by decide +kernel) rfl rfl rfl (by decide +kernel)
set_option maxRecDepth 65536 in
theorem w_c3 : (Jvm.Cond.code ({ cls := "java/lang/String", name := "<init>", desc := "([CIILjava/lang/Void;)V" } : Jvm.MethodName) jdk_42_method_149_code (6 : Nat) (Option.none : Option Jvm.ClassFile.FieldType)).before args0 about1 = true := code_word (m := ⟨7, 3⟩) (meth := k7m3) (c := k7c3) (by decide +kernel) rfl rfl rfl (by decide +kernel)
set_option maxRecDepth 65536 in
theorem w_c4 : (Jvm.Cond.code ({ cls := "java/lang/Object", name := "<init>", desc := "()V" } : Jvm.MethodName) object_method_1_code (1 : Nat) (Option.none : Option Jvm.ClassFile.FieldType)).before args0 about1 = true := code_word (m := ⟨0, 0⟩) (meth := k0m0) (c := k0c0) (by decide +kernel) rfl rfl rfl (by decide +kernel)
set_option maxRecDepth 65536 in
theorem w_c5 : (Jvm.Cond.code ({ cls := "com/example/ken/ken/collection/TagScanner$Tag", name := "<init>", desc := "(Ljava/lang/String;ZZII)V" } : Jvm.MethodName) prog_16_method_1_code (6 : Nat) (Option.none : Option Jvm.ClassFile.FieldType)).before args0 about1 = true := code_word (m := ⟨8, 0⟩) (meth := k8m0) (c := k8c0) (by decide +kernel) rfl rfl rfl (by decide +kernel)
set_option maxRecDepth 65536 in
theorem w_c6 : (Jvm.Cond.code ({ cls := "com/example/ken/ken/collection/TagScanner$Tag", name := "closes", desc := "(Ljava/lang/String;)Z" } : Jvm.MethodName) prog_16_method_8_code (2 : Nat) (Option.some Jvm.ClassFile.FieldType.boolean)).before args0 about1 = true := code_word (m := ⟨8, 1⟩) (meth := k8m1) (c := k8c1) (by decide +kernel) rfl rfl rfl (by decide +kernel)
set_option maxRecDepth 65536 in
theorem w_c7 : (Jvm.Cond.code ({ cls := "java/lang/String", name := "equals", desc := "(Ljava/lang/Object;)Z" } : Jvm.MethodName) jdk_42_method_66_code (3 : Nat) (Option.some Jvm.ClassFile.FieldType.boolean)).before args0 about1 = true := code_word (m := ⟨7, 2⟩) (meth := k7m2) (c := k7c2) (by decide +kernel) rfl rfl rfl (by decide +kernel)
set_option maxRecDepth 65536 in
theorem w_c8 : (Jvm.Cond.code ({ cls := "java/lang/StringLatin1", name := "equals", desc := "([B[B)Z" } : Jvm.MethodName) jdk_43_method_13_code (3 : Nat) (Option.some Jvm.ClassFile.FieldType.boolean)).before args0 about1 = true := code_word (m := ⟨9, 1⟩) (meth := k9m1) (c := k9c1) (by decide +kernel) rfl rfl rfl (by decide +kernel)
set_option maxRecDepth 65536 in
theorem w_c9 : (Jvm.Cond.code ({ cls := "java/lang/StringUTF16", name := "compress", desc := "([CII)[B" } : Jvm.MethodName) jdk_52_method_16_code (6 : Nat) (Option.some (Jvm.ClassFile.FieldType.array Jvm.ClassFile.FieldType.byte))).before args0 about1 = true := code_word (m := ⟨10, 2⟩) (meth := k10m2) (c := k10c2) (by decide +kernel) rfl rfl rfl (by decide +kernel)
set_option maxRecDepth 65536 in
theorem w_c10 : (Jvm.Cond.code ({ cls := "java/lang/StringUTF16", name := "compress", desc := "([CI[BII)I" } : Jvm.MethodName) jdk_52_method_21_code (7 : Nat) (Option.some Jvm.ClassFile.FieldType.int)).before args0 about1 = true := code_word (m := ⟨10, 3⟩) (meth := k10m3) (c := k10c3) (by decide +kernel) rfl rfl rfl (by decide +kernel)
set_option maxRecDepth 65536 in
theorem w_c11 : (Jvm.Cond.code ({ cls := "java/lang/StringUTF16", name := "coderFromArrayLen", desc := "([BI)B" } : Jvm.MethodName) jdk_52_method_15_code (2 : Nat) (Option.some Jvm.ClassFile.FieldType.byte)).before args0 about1 = true := code_word (m := ⟨10, 1⟩) (meth := k10m1) (c := k10c1) (by decide +kernel) rfl rfl rfl (by decide +kernel)
def codes1 : List Jvm.Cond := [Jvm.Cond.code x code maxLocals ret, Jvm.Cond.code ({ cls := "com/example/ken/ken/collection/TagClosesPinLaw", name := "str", desc := "(ICCC)Ljava/lang/String;" } : Jvm.MethodName) method_2_code (4 : Nat) (Option.some (Jvm.ClassFile.FieldType.object "java/lang/String")), Jvm.Cond.code ({ cls := "java/lang/String", name := "<init>", desc := "([C)V" } : Jvm.MethodName) jdk_42_method_3_code (2 : Nat) (Option.none : Option Jvm.ClassFile.FieldType), Jvm.Cond.code ({ cls := "java/lang/String", name := "<init>", desc := "([CIILjava/lang/Void;)V" } : Jvm.MethodName) jdk_42_method_149_code (6 : Nat) (Option.none : Option Jvm.ClassFile.FieldType), Jvm.Cond.code ({ cls := "java/lang/Object", name := "<init>", desc := "()V" } : Jvm.MethodName) object_method_1_code (1 : Nat) (Option.none : Option Jvm.ClassFile.FieldType), Jvm.Cond.code ({ cls := "com/example/ken/ken/collection/TagScanner$Tag", name := "<init>", desc := "(Ljava/lang/String;ZZII)V" } : Jvm.MethodName) prog_16_method_1_code (6 : Nat) (Option.none : Option Jvm.ClassFile.FieldType), Jvm.Cond.code ({ cls := "com/example/ken/ken/collection/TagScanner$Tag", name := "closes", desc := "(Ljava/lang/String;)Z" } : Jvm.MethodName) prog_16_method_8_code (2 : Nat) (Option.some Jvm.ClassFile.FieldType.boolean), Jvm.Cond.code ({ cls := "java/lang/String", name := "equals", desc := "(Ljava/lang/Object;)Z" } : Jvm.MethodName) jdk_42_method_66_code (3 : Nat) (Option.some Jvm.ClassFile.FieldType.boolean), Jvm.Cond.code ({ cls := "java/lang/StringLatin1", name := "equals", desc := "([B[B)Z" } : Jvm.MethodName) jdk_43_method_13_code (3 : Nat) (Option.some Jvm.ClassFile.FieldType.boolean), Jvm.Cond.code ({ cls := "java/lang/StringUTF16", name := "compress", desc := "([CII)[B" } : Jvm.MethodName) jdk_52_method_16_code (6 : Nat) (Option.some (Jvm.ClassFile.FieldType.array Jvm.ClassFile.FieldType.byte)), Jvm.Cond.code ({ cls := "java/lang/StringUTF16", name := "compress", desc := "([CI[BII)I" } : Jvm.MethodName) jdk_52_method_21_code (7 : Nat) (Option.some Jvm.ClassFile.FieldType.int), Jvm.Cond.code ({ cls := "java/lang/StringUTF16", name := "coderFromArrayLen", desc := "([BI)B" } : Jvm.MethodName) jdk_52_method_15_code (2 : Nat) (Option.some Jvm.ClassFile.FieldType.byte)]
set_option maxRecDepth 65536 in
theorem codes_eq : words1.filter isCode = codes1 := rfl
theorem w_codes : ∀ c ∈ words1.filter isCode, c.before args0 about1 = true := by
  rw [codes_eq]
  intro c hc
  simp only [codes1, List.mem_cons, List.not_mem_nil, or_false] at hc
  rcases hc with rfl | rfl | rfl | rfl | rfl | rfl | rfl | rfl | rfl | rfl | rfl | rfl
  · exact w_c0
  · exact w_c1
  · exact w_c2
  · exact w_c3
  · exact w_c4
  · exact w_c5
  · exact w_c6
  · exact w_c7
  · exact w_c8
  · exact w_c9
  · exact w_c10
  · exact w_c11
set_option maxRecDepth 65536 in
theorem w_t1 : (words1.take 24).all (fun c => isCode c || c.before args0 about1) = true := by decide +kernel
set_option maxRecDepth 65536 in
theorem w_t2 : ((words1.drop 24).take 24).all (fun c => isCode c || c.before args0 about1) = true := by decide +kernel
set_option maxRecDepth 65536 in
theorem w_t3 : ((words1.drop 24).drop 24).all (fun c => isCode c || c.before args0 about1) = true := by decide +kernel
theorem w_tables : (allAtoms (Jvm.Cond.code x code maxLocals ret :: tables_1)).before args0 about1 = true := by
  rw [allAtoms_all]
  show words1.all (fun c => c.before args0 about1) = true
  refine all_split ?_ w_codes
  rw [← List.take_append_drop 24 words1, List.all_append, w_t1, ← List.take_append_drop 24 (words1.drop 24), List.all_append, w_t2, w_t3]
  rfl
set_option maxRecDepth 65536 in
theorem w_rest : rest_1_c.before args0 about1 = true := by decide +kernel
set_option maxRecDepth 65536 in
theorem w_case : (Jvm.Cond.and given_1 narrow_1).before args0 about1 = true := by decide +kernel
set_option maxRecDepth 65536 in
theorem w_consts : constsHeld consts_1 about1 := Jvm.Lit.constsHeldB_iff.mp (by decide +kernel)
theorem w_applies : (headSpec (Jvm.Cond.code x code maxLocals ret :: tables_1) room_1).applies x e0.platform about1 = true :=
  (Spec.applies_iff w_frames).mpr ⟨w_running, w_runnable, w_alone, w_named, w_hears, w_ripe, w_room, w_tables⟩
theorem atStart : AtStart classFile x code maxLocals ret World_1 tables_1 room_1 Calls_1 rest_1 Pre_1 launch0 p0 e0 about1 theMethod args0 below0 :=
  ⟨lists_1, trivial, launch0.admits_env _ _ _, launch0.least_env, fairChoices_fair.cas, fairChoices_fair.clock, w_frames, w_args, w_heap, w_applies, ⟨w_consts, trivial⟩, w_rest, w_case⟩
end start1
theorem witness_1 : WitnessClaimed_1 := ⟨start1.p0, start1.e0, start1.about1, start1.theMethod, start1.args0, start1.below0, start1.atStart⟩
end Jvm.Pilot.@@N@@
