import JvmDerived
import JvmDerived.Pilot.@@N@@Statement
import JvmDerived.Pilot.@@N@@Code
set_option linter.unusedVariables false
set_option linter.unusedSimpArgs false
@@BLOCK:NumsL.lean.txt@@
namespace Jvm.OwnKit
open Sem ClassFile Op Lib Jvm.Stand Jvm.Free Jvm.LawKit Jvm.RoadKit
/-- from t the invocation runs to its end, and Post holds there -/
def Goes (p : Program) (e : Env) (below : List Frame) (Post : Outcome → State → Prop) (t : State) : Prop :=
  ∃ s₂ o, Steps p.tables e below t s₂ ∧ s₂.status = .running ∧ Ended s₂ below o ∧ Post o s₂
def i2c (x : Int32) : Int32 := x.toUInt32.toUInt16.toUInt32.toInt32
def i2b (x : Int32) : Int32 := x.toInt8.toInt32
section Goes
variable {p : Program} {e : Env} {below : List Frame} {Post : Outcome → State → Prop} {T T' t t' : State} {m : MethodId} {c : Code} {pc : Nat} {ls : Array Slot} {st rest : List Value}
theorem Goes.go (st : ∀ tg, Steps p.tables e below t' tg → Steps p.tables e below t tg) (h : Goes p e below Post t') : Goes p e below Post t := by
  obtain ⟨s₂, o, h1, h2⟩ := h
  exact ⟨s₂, o, st _ h1, h2⟩
theorem Goes.run (st : Steps p.tables e below t t') (h : Goes p e below Post t') : Goes p e below Post t := by
  obtain ⟨s₂, o, h1, h2⟩ := h
  exact ⟨s₂, o, st.trans h1, h2⟩
theorem Goes.cast {g g' : JFrame} (q : g = g') (h : Goes p e below Post (T.setTop g')) : Goes p e below Post (T.setTop g) := q ▸ h
theorem zeq {x : Int32} (h : x = 0) : ifCond.holds .eq x = true ∧ ifCond.holds .ne x = false := by subst h; exact ⟨rfl, rfl⟩
theorem zne {x : Int32} (h : ¬ x = 0) : ifCond.holds .eq x = false ∧ ifCond.holds .ne x = true := by
  have q : (x == 0) = false := by simp [h]
  exact ⟨q, by show (!(x == 0)) = true; rw [q]; rfl⟩
theorem zlt {x : Int32} (h : x < 0) : ifCond.holds .lt x = true ∧ ifCond.holds .ge x = false := ⟨decide_eq_true h, decide_eq_false (Int32.not_le.mpr h)⟩
theorem znl {x : Int32} (h : ¬ x < 0) : ifCond.holds .lt x = false ∧ ifCond.holds .ge x = true := ⟨decide_eq_false h, decide_eq_true (Int32.not_lt.mp h)⟩
theorem zgt {x : Int32} (h : 0 < x) : ifCond.holds .gt x = true ∧ ifCond.holds .le x = false := ⟨decide_eq_true h, decide_eq_false (Int32.not_le.mpr h)⟩
theorem zng {x : Int32} (h : ¬ 0 < x) : ifCond.holds .gt x = false ∧ ifCond.holds .le x = true := ⟨decide_eq_false h, decide_eq_true (Int32.not_lt.mp h)⟩
namespace G
theorem iload (h : At T m c below) (hx : p.tables.exec = Jvm.exec) (pc' : Nat) {k : Nat} {v : Int32} (hd : decode c.code pc = .ok (.iload k, 2)) (hl : ls[k]? = some (.val (.int v))) (hp : pc + 2 = pc')
    (K : Goes p e below Post (T.setTop (mkF m pc' ls (.int v :: st)))) : Goes p e below Post (T.setTop (mkF m pc ls st)) := by
  subst hp; exact Goes.go (fun _ k => XS.iload h hx rfl hd hl k) K
theorem iloadN (h : At T m c below) (hx : p.tables.exec = Jvm.exec) (pc' : Nat) {k : Fin 4} {v : Int32} (hd : decode c.code pc = .ok (.iload_n k, 1)) (hl : ls[k.val]? = some (.val (.int v))) (hp : pc + 1 = pc')
    (K : Goes p e below Post (T.setTop (mkF m pc' ls (.int v :: st)))) : Goes p e below Post (T.setTop (mkF m pc ls st)) := by
  subst hp; exact Goes.go (fun _ k => XS.iloadN h hx rfl hd hl k) K
theorem lload (h : At T m c below) (hx : p.tables.exec = Jvm.exec) (pc' : Nat) {k : Nat} {v : Int64} (hd : decode c.code pc = .ok (.lload k, 2)) (hl : ls[k]? = some (.val (.long v))) (hp : pc + 2 = pc')
    (K : Goes p e below Post (T.setTop (mkF m pc' ls (.long v :: st)))) : Goes p e below Post (T.setTop (mkF m pc ls st)) := by
  subst hp; exact Goes.go (fun _ k => XT.lload h hx rfl hd hl k) K
theorem lloadN (h : At T m c below) (hx : p.tables.exec = Jvm.exec) (pc' : Nat) {k : Fin 4} {v : Int64} (hd : decode c.code pc = .ok (.lload_n k, 1)) (hl : ls[k.val]? = some (.val (.long v))) (hp : pc + 1 = pc')
    (K : Goes p e below Post (T.setTop (mkF m pc' ls (.long v :: st)))) : Goes p e below Post (T.setTop (mkF m pc ls st)) := by
  subst hp; exact Goes.go (fun _ k => XT.lloadN h hx rfl hd hl k) K
theorem aload (h : At T m c below) (hx : p.tables.exec = Jvm.exec) (pc' : Nat) {k : Nat} {v : Value} (hd : decode c.code pc = .ok (.aload k, 2)) (hl : ls[k]? = some (.val v)) (hv : v.isRef = true) (hp : pc + 2 = pc')
    (K : Goes p e below Post (T.setTop (mkF m pc' ls (v :: st)))) : Goes p e below Post (T.setTop (mkF m pc ls st)) := by
  subst hp; exact Goes.go (fun _ k => XS.aload h hx rfl hd hl hv k) K
theorem aloadN (h : At T m c below) (hx : p.tables.exec = Jvm.exec) (pc' : Nat) {k : Fin 4} {v : Value} (hd : decode c.code pc = .ok (.aload_n k, 1)) (hl : ls[k.val]? = some (.val v)) (hv : v.isRef = true) (hp : pc + 1 = pc')
    (K : Goes p e below Post (T.setTop (mkF m pc' ls (v :: st)))) : Goes p e below Post (T.setTop (mkF m pc ls st)) := by
  subst hp; exact Goes.go (fun _ k => XS.aloadN h hx rfl hd hl hv k) K
theorem iconst (h : At T m c below) (hx : p.tables.exec = Jvm.exec) (pc' : Nat) (z : Int32) {i : Int} (hd : decode c.code pc = .ok (.iconst i, 1)) (hz : Int32.ofInt i = z) (hp : pc + 1 = pc')
    (K : Goes p e below Post (T.setTop (mkF m pc' ls (.int z :: st)))) : Goes p e below Post (T.setTop (mkF m pc ls st)) := by
  subst hp hz; exact Goes.go (fun _ k => XS.iconst h hx rfl hd k) K
theorem bipush (h : At T m c below) (hx : p.tables.exec = Jvm.exec) (pc' : Nat) (z : Int32) {i : Int} (hd : decode c.code pc = .ok (.bipush i, 2)) (hz : (Int8.ofInt i).toInt32 = z) (hp : pc + 2 = pc')
    (K : Goes p e below Post (T.setTop (mkF m pc' ls (.int z :: st)))) : Goes p e below Post (T.setTop (mkF m pc ls st)) := by
  subst hp hz; exact Goes.go (fun _ k => XS.bipush h hx rfl hd k) K
theorem sipush (h : At T m c below) (hx : p.tables.exec = Jvm.exec) (pc' : Nat) (z : Int32) {i : Int} (hd : decode c.code pc = .ok (.sipush i, 3)) (hz : (Int16.ofInt i).toInt32 = z) (hp : pc + 3 = pc')
    (K : Goes p e below Post (T.setTop (mkF m pc' ls (.int z :: st)))) : Goes p e below Post (T.setTop (mkF m pc ls st)) := by
  subst hp hz; exact Goes.go (fun _ k => XS.sipush h hx rfl hd k) K
theorem lconst (h : At T m c below) (hx : p.tables.exec = Jvm.exec) (pc' : Nat) (z : Int64) {i : Fin 2} (hd : decode c.code pc = .ok (.lconst i, 1)) (hz : Int64.ofNat i = z) (hp : pc + 1 = pc')
    (K : Goes p e below Post (T.setTop (mkF m pc' ls (.long z :: st)))) : Goes p e below Post (T.setTop (mkF m pc ls st)) := by
  subst hp hz; exact Goes.go (fun _ k => XT.lconst h hx rfl hd k) K
theorem aconstNull (h : At T m c below) (hx : p.tables.exec = Jvm.exec) (pc' : Nat)  (hd : decode c.code pc = .ok (.aconst_null, 1)) (hp : pc + 1 = pc')
    (K : Goes p e below Post (T.setTop (mkF m pc' ls (.null :: st)))) : Goes p e below Post (T.setTop (mkF m pc ls st)) := by
  subst hp; exact Goes.go (fun _ k => XS.aconstNull h hx rfl hd  k) K
theorem iadd (h : At T m c below) (hx : p.tables.exec = Jvm.exec) (pc' : Nat) {x y : Int32} (hd : decode c.code pc = .ok (.iadd, 1)) (hp : pc + 1 = pc')
    (K : Goes p e below Post (T.setTop (mkF m pc' ls (.int (x + y) :: st)))) : Goes p e below Post (T.setTop (mkF m pc ls (.int y :: .int x :: st))) := by
  subst hp; exact Goes.go (fun _ k => XS.iadd h hx rfl hd rfl k) K
theorem isub (h : At T m c below) (hx : p.tables.exec = Jvm.exec) (pc' : Nat) {x y : Int32} (hd : decode c.code pc = .ok (.isub, 1)) (hp : pc + 1 = pc')
    (K : Goes p e below Post (T.setTop (mkF m pc' ls (.int (x - y) :: st)))) : Goes p e below Post (T.setTop (mkF m pc ls (.int y :: .int x :: st))) := by
  subst hp; exact Goes.go (fun _ k => XS.isub h hx rfl hd rfl k) K
theorem imul (h : At T m c below) (hx : p.tables.exec = Jvm.exec) (pc' : Nat) {x y : Int32} (hd : decode c.code pc = .ok (.imul, 1)) (hp : pc + 1 = pc')
    (K : Goes p e below Post (T.setTop (mkF m pc' ls (.int (x * y) :: st)))) : Goes p e below Post (T.setTop (mkF m pc ls (.int y :: .int x :: st))) := by
  subst hp; exact Goes.go (fun _ k => XS.imul h hx rfl hd rfl k) K
theorem iand (h : At T m c below) (hx : p.tables.exec = Jvm.exec) (pc' : Nat) {x y : Int32} (hd : decode c.code pc = .ok (.iand, 1)) (hp : pc + 1 = pc')
    (K : Goes p e below Post (T.setTop (mkF m pc' ls (.int (x &&& y) :: st)))) : Goes p e below Post (T.setTop (mkF m pc ls (.int y :: .int x :: st))) := by
  subst hp; exact Goes.go (fun _ k => XS.iand h hx rfl hd rfl k) K
theorem ior (h : At T m c below) (hx : p.tables.exec = Jvm.exec) (pc' : Nat) {x y : Int32} (hd : decode c.code pc = .ok (.ior, 1)) (hp : pc + 1 = pc')
    (K : Goes p e below Post (T.setTop (mkF m pc' ls (.int (x ||| y) :: st)))) : Goes p e below Post (T.setTop (mkF m pc ls (.int y :: .int x :: st))) := by
  subst hp; exact Goes.go (fun _ k => XT.ior h hx rfl hd rfl k) K
theorem ixor (h : At T m c below) (hx : p.tables.exec = Jvm.exec) (pc' : Nat) {x y : Int32} (hd : decode c.code pc = .ok (.ixor, 1)) (hp : pc + 1 = pc')
    (K : Goes p e below Post (T.setTop (mkF m pc' ls (.int (x ^^^ y) :: st)))) : Goes p e below Post (T.setTop (mkF m pc ls (.int y :: .int x :: st))) := by
  subst hp; exact Goes.go (fun _ k => XT.ixor h hx rfl hd rfl k) K
theorem ishl (h : At T m c below) (hx : p.tables.exec = Jvm.exec) (pc' : Nat) {x y : Int32} (hd : decode c.code pc = .ok (.ishl, 1)) (hp : pc + 1 = pc')
    (K : Goes p e below Post (T.setTop (mkF m pc' ls (.int (x <<< (y &&& 31)) :: st)))) : Goes p e below Post (T.setTop (mkF m pc ls (.int y :: .int x :: st))) := by
  subst hp; exact Goes.go (fun _ k => XT.ishl h hx rfl hd rfl k) K
theorem ishr (h : At T m c below) (hx : p.tables.exec = Jvm.exec) (pc' : Nat) {x y : Int32} (hd : decode c.code pc = .ok (.ishr, 1)) (hp : pc + 1 = pc')
    (K : Goes p e below Post (T.setTop (mkF m pc' ls (.int (x >>> (y &&& 31)) :: st)))) : Goes p e below Post (T.setTop (mkF m pc ls (.int y :: .int x :: st))) := by
  subst hp; exact Goes.go (fun _ k => XT.ishr h hx rfl hd rfl k) K
theorem iushr (h : At T m c below) (hx : p.tables.exec = Jvm.exec) (pc' : Nat) {x y : Int32} (hd : decode c.code pc = .ok (.iushr, 1)) (hp : pc + 1 = pc')
    (K : Goes p e below Post (T.setTop (mkF m pc' ls (.int (XT.ushr x y) :: st)))) : Goes p e below Post (T.setTop (mkF m pc ls (.int y :: .int x :: st))) := by
  subst hp; exact Goes.go (fun _ k => XT.iushr h hx rfl hd rfl k) K
theorem ladd (h : At T m c below) (hx : p.tables.exec = Jvm.exec) (pc' : Nat) {x y : Int64} (hd : decode c.code pc = .ok (.ladd, 1)) (hp : pc + 1 = pc')
    (K : Goes p e below Post (T.setTop (mkF m pc' ls (.long (x + y) :: st)))) : Goes p e below Post (T.setTop (mkF m pc ls (.long y :: .long x :: st))) := by
  subst hp; exact Goes.go (fun _ k => XT.ladd h hx rfl hd rfl k) K
theorem lsub (h : At T m c below) (hx : p.tables.exec = Jvm.exec) (pc' : Nat) {x y : Int64} (hd : decode c.code pc = .ok (.lsub, 1)) (hp : pc + 1 = pc')
    (K : Goes p e below Post (T.setTop (mkF m pc' ls (.long (x - y) :: st)))) : Goes p e below Post (T.setTop (mkF m pc ls (.long y :: .long x :: st))) := by
  subst hp; exact Goes.go (fun _ k => XT.lsub h hx rfl hd rfl k) K
theorem lmul (h : At T m c below) (hx : p.tables.exec = Jvm.exec) (pc' : Nat) {x y : Int64} (hd : decode c.code pc = .ok (.lmul, 1)) (hp : pc + 1 = pc')
    (K : Goes p e below Post (T.setTop (mkF m pc' ls (.long (x * y) :: st)))) : Goes p e below Post (T.setTop (mkF m pc ls (.long y :: .long x :: st))) := by
  subst hp; exact Goes.go (fun _ k => XT.lmul h hx rfl hd rfl k) K
theorem land (h : At T m c below) (hx : p.tables.exec = Jvm.exec) (pc' : Nat) {x y : Int64} (hd : decode c.code pc = .ok (.land, 1)) (hp : pc + 1 = pc')
    (K : Goes p e below Post (T.setTop (mkF m pc' ls (.long (x &&& y) :: st)))) : Goes p e below Post (T.setTop (mkF m pc ls (.long y :: .long x :: st))) := by
  subst hp; exact Goes.go (fun _ k => XT.land h hx rfl hd rfl k) K
theorem lor (h : At T m c below) (hx : p.tables.exec = Jvm.exec) (pc' : Nat) {x y : Int64} (hd : decode c.code pc = .ok (.lor, 1)) (hp : pc + 1 = pc')
    (K : Goes p e below Post (T.setTop (mkF m pc' ls (.long (x ||| y) :: st)))) : Goes p e below Post (T.setTop (mkF m pc ls (.long y :: .long x :: st))) := by
  subst hp; exact Goes.go (fun _ k => XT.lor h hx rfl hd rfl k) K
theorem lxor (h : At T m c below) (hx : p.tables.exec = Jvm.exec) (pc' : Nat) {x y : Int64} (hd : decode c.code pc = .ok (.lxor, 1)) (hp : pc + 1 = pc')
    (K : Goes p e below Post (T.setTop (mkF m pc' ls (.long (x ^^^ y) :: st)))) : Goes p e below Post (T.setTop (mkF m pc ls (.long y :: .long x :: st))) := by
  subst hp; exact Goes.go (fun _ k => XT.lxor h hx rfl hd rfl k) K
theorem lshl (h : At T m c below) (hx : p.tables.exec = Jvm.exec) (pc' : Nat) {x : Int64} {y : Int32} (hd : decode c.code pc = .ok (.lshl, 1)) (hp : pc + 1 = pc')
    (K : Goes p e below Post (T.setTop (mkF m pc' ls (.long (x <<< (y.toInt64 &&& 63)) :: st)))) : Goes p e below Post (T.setTop (mkF m pc ls (.int y :: .long x :: st))) := by
  subst hp; exact Goes.go (fun _ k => XT.lshl h hx rfl hd rfl k) K
theorem lshr (h : At T m c below) (hx : p.tables.exec = Jvm.exec) (pc' : Nat) {x : Int64} {y : Int32} (hd : decode c.code pc = .ok (.lshr, 1)) (hp : pc + 1 = pc')
    (K : Goes p e below Post (T.setTop (mkF m pc' ls (.long (x >>> (y.toInt64 &&& 63)) :: st)))) : Goes p e below Post (T.setTop (mkF m pc ls (.int y :: .long x :: st))) := by
  subst hp; exact Goes.go (fun _ k => XT.lshr h hx rfl hd rfl k) K
theorem lushr (h : At T m c below) (hx : p.tables.exec = Jvm.exec) (pc' : Nat) {x : Int64} {y : Int32} (hd : decode c.code pc = .ok (.lushr, 1)) (hp : pc + 1 = pc')
    (K : Goes p e below Post (T.setTop (mkF m pc' ls (.long (XT.ushrL x y) :: st)))) : Goes p e below Post (T.setTop (mkF m pc ls (.int y :: .long x :: st))) := by
  subst hp; exact Goes.go (fun _ k => XT.lushr h hx rfl hd rfl k) K
theorem lcmp (h : At T m c below) (hx : p.tables.exec = Jvm.exec) (pc' : Nat) {x y : Int64} (hd : decode c.code pc = .ok (.lcmp, 1)) (hp : pc + 1 = pc')
    (K : Goes p e below Post (T.setTop (mkF m pc' ls (.int (XT.cmpL x y) :: st)))) : Goes p e below Post (T.setTop (mkF m pc ls (.long y :: .long x :: st))) := by
  subst hp; exact Goes.go (fun _ k => XT.lcmp h hx rfl hd rfl k) K
theorem idiv (h : At T m c below) (hx : p.tables.exec = Jvm.exec) (pc' : Nat) {x y : Int32} (hd : decode c.code pc = .ok (.idiv, 1)) (hy : y ≠ 0) (hp : pc + 1 = pc')
    (K : Goes p e below Post (T.setTop (mkF m pc' ls (.int (x / y) :: st)))) : Goes p e below Post (T.setTop (mkF m pc ls (.int y :: .int x :: st))) := by
  subst hp; exact Goes.go (fun _ k => XS.idiv h hx rfl hd rfl hy k) K
theorem irem (h : At T m c below) (hx : p.tables.exec = Jvm.exec) (pc' : Nat) {x y : Int32} (hd : decode c.code pc = .ok (.irem, 1)) (hy : y ≠ 0) (hp : pc + 1 = pc')
    (K : Goes p e below Post (T.setTop (mkF m pc' ls (.int (x % y) :: st)))) : Goes p e below Post (T.setTop (mkF m pc ls (.int y :: .int x :: st))) := by
  subst hp; exact Goes.go (fun _ k => XS.irem h hx rfl hd rfl hy (by rw [irem_eq_mod]; exact k)) K
theorem ineg (h : At T m c below) (hx : p.tables.exec = Jvm.exec) (pc' : Nat) {x : Int32} (hd : decode c.code pc = .ok (.ineg, 1)) (hp : pc + 1 = pc')
    (K : Goes p e below Post (T.setTop (mkF m pc' ls (.int (-x) :: st)))) : Goes p e below Post (T.setTop (mkF m pc ls (.int x :: st))) := by
  subst hp; exact Goes.go (fun _ k => XS.ineg h hx rfl hd rfl k) K
theorem lneg (h : At T m c below) (hx : p.tables.exec = Jvm.exec) (pc' : Nat) {x : Int64} (hd : decode c.code pc = .ok (.lneg, 1)) (hp : pc + 1 = pc')
    (K : Goes p e below Post (T.setTop (mkF m pc' ls (.long (-x) :: st)))) : Goes p e below Post (T.setTop (mkF m pc ls (.long x :: st))) := by
  subst hp; exact Goes.go (fun _ k => XT.lneg h hx rfl hd rfl k) K
theorem i2l (h : At T m c below) (hx : p.tables.exec = Jvm.exec) (pc' : Nat) {x : Int32} (hd : decode c.code pc = .ok (.i2l, 1)) (hp : pc + 1 = pc')
    (K : Goes p e below Post (T.setTop (mkF m pc' ls (.long x.toInt64 :: st)))) : Goes p e below Post (T.setTop (mkF m pc ls (.int x :: st))) := by
  subst hp; exact Goes.go (fun _ k => XT.i2l h hx rfl hd rfl k) K
theorem l2i (h : At T m c below) (hx : p.tables.exec = Jvm.exec) (pc' : Nat) {x : Int64} (hd : decode c.code pc = .ok (.l2i, 1)) (hp : pc + 1 = pc')
    (K : Goes p e below Post (T.setTop (mkF m pc' ls (.int x.toInt32 :: st)))) : Goes p e below Post (T.setTop (mkF m pc ls (.long x :: st))) := by
  subst hp; exact Goes.go (fun _ k => XT.l2i h hx rfl hd rfl k) K
theorem i2b (h : At T m c below) (hx : p.tables.exec = Jvm.exec) (pc' : Nat) {x : Int32} (hd : decode c.code pc = .ok (.i2b, 1)) (hp : pc + 1 = pc')
    (K : Goes p e below Post (T.setTop (mkF m pc' ls (.int (OwnKit.i2b x) :: st)))) : Goes p e below Post (T.setTop (mkF m pc ls (.int x :: st))) := by
  subst hp; exact Goes.go (fun _ k => XT.i2b h hx rfl hd rfl k) K
theorem i2c (h : At T m c below) (hx : p.tables.exec = Jvm.exec) (pc' : Nat) {x : Int32} (hd : decode c.code pc = .ok (.i2c, 1)) (hp : pc + 1 = pc')
    (K : Goes p e below Post (T.setTop (mkF m pc' ls (.int (OwnKit.i2c x) :: st)))) : Goes p e below Post (T.setTop (mkF m pc ls (.int x :: st))) := by
  subst hp; exact Goes.go (fun _ k => XT.i2c h hx rfl hd rfl k) K
theorem dup (h : At T m c below) (hx : p.tables.exec = Jvm.exec) (pc' : Nat) {x : Value} (hd : decode c.code pc = .ok (.dup, 1)) (hc : x.category = 1) (hp : pc + 1 = pc')
    (K : Goes p e below Post (T.setTop (mkF m pc' ls (x :: x :: st)))) : Goes p e below Post (T.setTop (mkF m pc ls (x :: st))) := by
  subst hp; exact Goes.go (fun _ k => XS.dup h hx rfl hd rfl hc k) K
theorem pop (h : At T m c below) (hx : p.tables.exec = Jvm.exec) (pc' : Nat) {x : Value} (hd : decode c.code pc = .ok (.pop, 1)) (hc : x.category = 1) (hp : pc + 1 = pc')
    (K : Goes p e below Post (T.setTop (mkF m pc' ls st))) : Goes p e below Post (T.setTop (mkF m pc ls (x :: st))) := by
  subst hp; exact Goes.go (fun _ k => XT.pop h hx rfl hd rfl hc k) K
theorem dupX1 (h : At T m c below) (hx : p.tables.exec = Jvm.exec) (pc' : Nat) {x y : Value} (hd : decode c.code pc = .ok (.dup_x1, 1)) (hc : x.category = 1) (hc' : y.category = 1) (hp : pc + 1 = pc')
    (K : Goes p e below Post (T.setTop (mkF m pc' ls (x :: y :: x :: st)))) : Goes p e below Post (T.setTop (mkF m pc ls (x :: y :: st))) := by
  subst hp; exact Goes.go (fun _ k => XT.dupX1 h hx rfl hd rfl hc hc' k) K
theorem dup2 (h : At T m c below) (hx : p.tables.exec = Jvm.exec) (pc' : Nat) {x y : Value} (hd : decode c.code pc = .ok (.dup2, 1)) (hc : x.category = 1) (hc' : y.category = 1) (hp : pc + 1 = pc')
    (K : Goes p e below Post (T.setTop (mkF m pc' ls (x :: y :: x :: y :: st)))) : Goes p e below Post (T.setTop (mkF m pc ls (x :: y :: st))) := by
  subst hp; exact Goes.go (fun _ k => XT.dup2 h hx rfl hd rfl hc hc' k) K
theorem iaddF (h : At T m c below) (hx : p.tables.exec = Jvm.exec) (pc' : Nat) (z : Int32) {x y : Int32} (hd : decode c.code pc = .ok (.iadd, 1)) (hz : x + y = z) (hp : pc + 1 = pc')
    (K : Goes p e below Post (T.setTop (mkF m pc' ls (.int z :: st)))) : Goes p e below Post (T.setTop (mkF m pc ls (.int y :: .int x :: st))) := by
  subst hz; exact iadd h hx pc' hd hp K
theorem isubF (h : At T m c below) (hx : p.tables.exec = Jvm.exec) (pc' : Nat) (z : Int32) {x y : Int32} (hd : decode c.code pc = .ok (.isub, 1)) (hz : x - y = z) (hp : pc + 1 = pc')
    (K : Goes p e below Post (T.setTop (mkF m pc' ls (.int z :: st)))) : Goes p e below Post (T.setTop (mkF m pc ls (.int y :: .int x :: st))) := by
  subst hz; exact isub h hx pc' hd hp K
theorem imulF (h : At T m c below) (hx : p.tables.exec = Jvm.exec) (pc' : Nat) (z : Int32) {x y : Int32} (hd : decode c.code pc = .ok (.imul, 1)) (hz : x * y = z) (hp : pc + 1 = pc')
    (K : Goes p e below Post (T.setTop (mkF m pc' ls (.int z :: st)))) : Goes p e below Post (T.setTop (mkF m pc ls (.int y :: .int x :: st))) := by
  subst hz; exact imul h hx pc' hd hp K
theorem iandF (h : At T m c below) (hx : p.tables.exec = Jvm.exec) (pc' : Nat) (z : Int32) {x y : Int32} (hd : decode c.code pc = .ok (.iand, 1)) (hz : x &&& y = z) (hp : pc + 1 = pc')
    (K : Goes p e below Post (T.setTop (mkF m pc' ls (.int z :: st)))) : Goes p e below Post (T.setTop (mkF m pc ls (.int y :: .int x :: st))) := by
  subst hz; exact iand h hx pc' hd hp K
theorem iorF (h : At T m c below) (hx : p.tables.exec = Jvm.exec) (pc' : Nat) (z : Int32) {x y : Int32} (hd : decode c.code pc = .ok (.ior, 1)) (hz : x ||| y = z) (hp : pc + 1 = pc')
    (K : Goes p e below Post (T.setTop (mkF m pc' ls (.int z :: st)))) : Goes p e below Post (T.setTop (mkF m pc ls (.int y :: .int x :: st))) := by
  subst hz; exact ior h hx pc' hd hp K
theorem ixorF (h : At T m c below) (hx : p.tables.exec = Jvm.exec) (pc' : Nat) (z : Int32) {x y : Int32} (hd : decode c.code pc = .ok (.ixor, 1)) (hz : x ^^^ y = z) (hp : pc + 1 = pc')
    (K : Goes p e below Post (T.setTop (mkF m pc' ls (.int z :: st)))) : Goes p e below Post (T.setTop (mkF m pc ls (.int y :: .int x :: st))) := by
  subst hz; exact ixor h hx pc' hd hp K
theorem ishlF (h : At T m c below) (hx : p.tables.exec = Jvm.exec) (pc' : Nat) (z : Int32) {x y : Int32} (hd : decode c.code pc = .ok (.ishl, 1)) (hz : x <<< (y &&& 31) = z) (hp : pc + 1 = pc')
    (K : Goes p e below Post (T.setTop (mkF m pc' ls (.int z :: st)))) : Goes p e below Post (T.setTop (mkF m pc ls (.int y :: .int x :: st))) := by
  subst hz; exact ishl h hx pc' hd hp K
theorem ishrF (h : At T m c below) (hx : p.tables.exec = Jvm.exec) (pc' : Nat) (z : Int32) {x y : Int32} (hd : decode c.code pc = .ok (.ishr, 1)) (hz : x >>> (y &&& 31) = z) (hp : pc + 1 = pc')
    (K : Goes p e below Post (T.setTop (mkF m pc' ls (.int z :: st)))) : Goes p e below Post (T.setTop (mkF m pc ls (.int y :: .int x :: st))) := by
  subst hz; exact ishr h hx pc' hd hp K
theorem iushrF (h : At T m c below) (hx : p.tables.exec = Jvm.exec) (pc' : Nat) (z : Int32) {x y : Int32} (hd : decode c.code pc = .ok (.iushr, 1)) (hz : XT.ushr x y = z) (hp : pc + 1 = pc')
    (K : Goes p e below Post (T.setTop (mkF m pc' ls (.int z :: st)))) : Goes p e below Post (T.setTop (mkF m pc ls (.int y :: .int x :: st))) := by
  subst hz; exact iushr h hx pc' hd hp K
theorem inegF (h : At T m c below) (hx : p.tables.exec = Jvm.exec) (pc' : Nat) (z : Int32) {x : Int32} (hd : decode c.code pc = .ok (.ineg, 1)) (hz : -x = z) (hp : pc + 1 = pc')
    (K : Goes p e below Post (T.setTop (mkF m pc' ls (.int z :: st)))) : Goes p e below Post (T.setTop (mkF m pc ls (.int x :: st))) := by
  subst hz; exact ineg h hx pc' hd hp K
theorem istore (h : At T m c below) (hx : p.tables.exec = Jvm.exec) (pc' : Nat) (l' : Int32 → Array Slot) {k : Nat} {x : Int32} (hd : decode c.code pc = .ok (.istore k, 2)) (hl : ∀ v, storeLocals ls k (.int v) = some (l' v)) (hp : pc + 2 = pc')
    (K : ∀ v, v = x → Goes p e below Post (T.setTop (mkF m pc' (l' v) st))) : Goes p e below Post (T.setTop (mkF m pc ls (.int x :: st))) := by
  subst hp; exact Goes.go (fun _ k => XS.istore h hx rfl hd rfl (hl x) k) (K x rfl)
theorem istoreN (h : At T m c below) (hx : p.tables.exec = Jvm.exec) (pc' : Nat) (l' : Int32 → Array Slot) {k : Fin 4} {x : Int32} (hd : decode c.code pc = .ok (.istore_n k, 1)) (hl : ∀ v, storeLocals ls k.val (.int v) = some (l' v)) (hp : pc + 1 = pc')
    (K : ∀ v, v = x → Goes p e below Post (T.setTop (mkF m pc' (l' v) st))) : Goes p e below Post (T.setTop (mkF m pc ls (.int x :: st))) := by
  subst hp; exact Goes.go (fun _ k => XS.istoreN h hx rfl hd rfl (hl x) k) (K x rfl)
theorem lstore (h : At T m c below) (hx : p.tables.exec = Jvm.exec) (pc' : Nat) (l' : Int64 → Array Slot) {k : Nat} {x : Int64} (hd : decode c.code pc = .ok (.lstore k, 2)) (hl : ∀ v, storeLocals ls k (.long v) = some (l' v)) (hp : pc + 2 = pc')
    (K : ∀ v, v = x → Goes p e below Post (T.setTop (mkF m pc' (l' v) st))) : Goes p e below Post (T.setTop (mkF m pc ls (.long x :: st))) := by
  subst hp; exact Goes.go (fun _ k => XT.lstore h hx rfl hd rfl (hl x) k) (K x rfl)
theorem lstoreN (h : At T m c below) (hx : p.tables.exec = Jvm.exec) (pc' : Nat) (l' : Int64 → Array Slot) {k : Fin 4} {x : Int64} (hd : decode c.code pc = .ok (.lstore_n k, 1)) (hl : ∀ v, storeLocals ls k.val (.long v) = some (l' v)) (hp : pc + 1 = pc')
    (K : ∀ v, v = x → Goes p e below Post (T.setTop (mkF m pc' (l' v) st))) : Goes p e below Post (T.setTop (mkF m pc ls (.long x :: st))) := by
  subst hp; exact Goes.go (fun _ k => XT.lstoreN h hx rfl hd rfl (hl x) k) (K x rfl)
theorem istoreX (h : At T m c below) (hx : p.tables.exec = Jvm.exec) (pc' : Nat) (l' : Array Slot) {k : Nat} {x : Int32} (hd : decode c.code pc = .ok (.istore k, 2)) (hl : storeLocals ls k (.int x) = some l') (hp : pc + 2 = pc')
    (K : Goes p e below Post (T.setTop (mkF m pc' l' st))) : Goes p e below Post (T.setTop (mkF m pc ls (.int x :: st))) := by
  subst hp; exact Goes.go (fun _ k => XS.istore h hx rfl hd rfl hl k) K
theorem istoreNX (h : At T m c below) (hx : p.tables.exec = Jvm.exec) (pc' : Nat) (l' : Array Slot) {k : Fin 4} {x : Int32} (hd : decode c.code pc = .ok (.istore_n k, 1)) (hl : storeLocals ls k.val (.int x) = some l') (hp : pc + 1 = pc')
    (K : Goes p e below Post (T.setTop (mkF m pc' l' st))) : Goes p e below Post (T.setTop (mkF m pc ls (.int x :: st))) := by
  subst hp; exact Goes.go (fun _ k => XS.istoreN h hx rfl hd rfl hl k) K
theorem lstoreX (h : At T m c below) (hx : p.tables.exec = Jvm.exec) (pc' : Nat) (l' : Array Slot) {k : Nat} {x : Int64} (hd : decode c.code pc = .ok (.lstore k, 2)) (hl : storeLocals ls k (.long x) = some l') (hp : pc + 2 = pc')
    (K : Goes p e below Post (T.setTop (mkF m pc' l' st))) : Goes p e below Post (T.setTop (mkF m pc ls (.long x :: st))) := by
  subst hp; exact Goes.go (fun _ k => XT.lstore h hx rfl hd rfl hl k) K
theorem lstoreNX (h : At T m c below) (hx : p.tables.exec = Jvm.exec) (pc' : Nat) (l' : Array Slot) {k : Fin 4} {x : Int64} (hd : decode c.code pc = .ok (.lstore_n k, 1)) (hl : storeLocals ls k.val (.long x) = some l') (hp : pc + 1 = pc')
    (K : Goes p e below Post (T.setTop (mkF m pc' l' st))) : Goes p e below Post (T.setTop (mkF m pc ls (.long x :: st))) := by
  subst hp; exact Goes.go (fun _ k => XT.lstoreN h hx rfl hd rfl hl k) K
theorem iincX (h : At T m c below) (hx : p.tables.exec = Jvm.exec) (pc' : Nat) (l' : Array Slot) {k : Nat} {cst : Int} {x : Int32} (hd : decode c.code pc = .ok (.iinc k cst, 3)) (hg : ls[k]? = some (.val (.int x))) (z : Int32) (hz : Int32.ofInt cst = z) (hl : storeLocals ls k (.int (x + z)) = some l') (hp : pc + 3 = pc')
    (K : Goes p e below Post (T.setTop (mkF m pc' l' st))) : Goes p e below Post (T.setTop (mkF m pc ls st)) := by
  subst hp hz; exact Goes.go (fun _ k => XS.iinc h hx rfl hd hg hl k) K
theorem astore (h : At T m c below) (hx : p.tables.exec = Jvm.exec) (pc' : Nat) (l' : Array Slot) {k : Nat} {x : Value} (hd : decode c.code pc = .ok (.astore k, 2)) (hv : x.isRef = true) (hl : storeLocals ls k x = some l') (hp : pc + 2 = pc')
    (K : Goes p e below Post (T.setTop (mkF m pc' l' st))) : Goes p e below Post (T.setTop (mkF m pc ls (x :: st))) := by
  subst hp; exact Goes.go (fun _ k => XS.astore h hx rfl hd rfl hv hl k) K
theorem astoreN (h : At T m c below) (hx : p.tables.exec = Jvm.exec) (pc' : Nat) (l' : Array Slot) {k : Fin 4} {x : Value} (hd : decode c.code pc = .ok (.astore_n k, 1)) (hv : x.isRef = true) (hl : storeLocals ls k.val x = some l') (hp : pc + 1 = pc')
    (K : Goes p e below Post (T.setTop (mkF m pc' l' st))) : Goes p e below Post (T.setTop (mkF m pc ls (x :: st))) := by
  subst hp; exact Goes.go (fun _ k => XS.astoreN h hx rfl hd rfl hv hl k) K
theorem iinc (h : At T m c below) (hx : p.tables.exec = Jvm.exec) (pc' : Nat) (l' : Int32 → Array Slot) {k : Nat} {cst : Int} {x : Int32} (hd : decode c.code pc = .ok (.iinc k cst, 3)) (hg : ls[k]? = some (.val (.int x))) (z : Int32) (hz : Int32.ofInt cst = z) (hl : ∀ v, storeLocals ls k (.int v) = some (l' v)) (hp : pc + 3 = pc')
    (K : ∀ v, v = x + z → Goes p e below Post (T.setTop (mkF m pc' (l' v) st))) : Goes p e below Post (T.setTop (mkF m pc ls st)) := by
  subst hp hz; exact Goes.go (fun _ k => XS.iinc h hx rfl hd hg (hl _) k) (K _ rfl)
theorem goto (h : At T m c below) (hx : p.tables.exec = Jvm.exec) (pc' : Nat) {o : Int} (hd : decode c.code pc = .ok (.goto o, 3)) (ho : 0 ≤ (pc : Int) + o) (hp : ((pc : Int) + o).toNat = pc')
    (K : Goes p e below Post (T.setTop (mkF m pc' ls st))) : Goes p e below Post (T.setTop (mkF m pc ls st)) := Goes.go (fun _ k => XS.goto h hx rfl (pc0 := pc) rfl hd ho hp k) K
theorem ifY (h : At T m c below) (hx : p.tables.exec = Jvm.exec) (pc' : Nat) {cd : ClassFile.Cond} {x : Int32} {o : Int} (hd : decode c.code pc = .ok (.ifCond cd o, 3)) (hc : ifCond.holds cd x = true) (ho : 0 ≤ (pc : Int) + o) (hp : ((pc : Int) + o).toNat = pc')
    (K : Goes p e below Post (T.setTop (mkF m pc' ls st))) : Goes p e below Post (T.setTop (mkF m pc ls (.int x :: st))) := Goes.go (fun _ k => XS.ifYes h hx rfl (pc0 := pc) rfl hd rfl hc ho hp k) K
theorem ifN (h : At T m c below) (hx : p.tables.exec = Jvm.exec) (pc' : Nat) {cd : ClassFile.Cond} {x : Int32} {o : Int} (hd : decode c.code pc = .ok (.ifCond cd o, 3)) (hc : ifCond.holds cd x = false) (hp : pc + 3 = pc')
    (K : Goes p e below Post (T.setTop (mkF m pc' ls st))) : Goes p e below Post (T.setTop (mkF m pc ls (.int x :: st))) := by
  subst hp; exact Goes.go (fun _ k => XS.ifNo h hx rfl hd rfl hc k) K
theorem icmpY (h : At T m c below) (hx : p.tables.exec = Jvm.exec) (pc' : Nat) {cd : ClassFile.Cond} {x y : Int32} {o : Int} (hd : decode c.code pc = .ok (.if_icmp cd o, 3)) (hc : if_icmp.holds cd x y = true) (ho : 0 ≤ (pc : Int) + o) (hp : ((pc : Int) + o).toNat = pc')
    (K : Goes p e below Post (T.setTop (mkF m pc' ls st))) : Goes p e below Post (T.setTop (mkF m pc ls (.int y :: .int x :: st))) := Goes.go (fun _ k => XS.icmpYes h hx rfl (pc0 := pc) rfl hd rfl hc ho hp k) K
theorem icmpN (h : At T m c below) (hx : p.tables.exec = Jvm.exec) (pc' : Nat) {cd : ClassFile.Cond} {x y : Int32} {o : Int} (hd : decode c.code pc = .ok (.if_icmp cd o, 3)) (hc : if_icmp.holds cd x y = false) (hp : pc + 3 = pc')
    (K : Goes p e below Post (T.setTop (mkF m pc' ls st))) : Goes p e below Post (T.setTop (mkF m pc ls (.int y :: .int x :: st))) := by
  subst hp; exact Goes.go (fun _ k => XS.icmpNo h hx rfl hd rfl hc k) K
theorem ifnullY (h : At T m c below) (hx : p.tables.exec = Jvm.exec) (pc' : Nat) {o : Int} (hd : decode c.code pc = .ok (.ifnull o, 3)) (ho : 0 ≤ (pc : Int) + o) (hp : ((pc : Int) + o).toNat = pc')
    (K : Goes p e below Post (T.setTop (mkF m pc' ls st))) : Goes p e below Post (T.setTop (mkF m pc ls (.null :: st))) := Goes.go (fun _ k => XS.ifnullYes h hx rfl (pc0 := pc) rfl hd rfl ho hp k) K
theorem ifnullN (h : At T m c below) (hx : p.tables.exec = Jvm.exec) (pc' : Nat) {b : Addr} {o : Int} (hd : decode c.code pc = .ok (.ifnull o, 3)) (hp : pc + 3 = pc')
    (K : Goes p e below Post (T.setTop (mkF m pc' ls st))) : Goes p e below Post (T.setTop (mkF m pc ls (.ref b :: st))) := by
  subst hp; exact Goes.go (fun _ k => XS.ifnullNo h hx rfl hd rfl k) K
theorem ifnonnullY (h : At T m c below) (hx : p.tables.exec = Jvm.exec) (pc' : Nat) {b : Addr} {o : Int} (hd : decode c.code pc = .ok (.ifnonnull o, 3)) (ho : 0 ≤ (pc : Int) + o) (hp : ((pc : Int) + o).toNat = pc')
    (K : Goes p e below Post (T.setTop (mkF m pc' ls st))) : Goes p e below Post (T.setTop (mkF m pc ls (.ref b :: st))) := Goes.go (fun _ k => XT.ifnonnullYes h hx rfl (pc0 := pc) rfl hd rfl ho hp k) K
theorem ifnonnullN (h : At T m c below) (hx : p.tables.exec = Jvm.exec) (pc' : Nat) {o : Int} (hd : decode c.code pc = .ok (.ifnonnull o, 3)) (hp : pc + 3 = pc')
    (K : Goes p e below Post (T.setTop (mkF m pc' ls st))) : Goes p e below Post (T.setTop (mkF m pc ls (.null :: st))) := by
  subst hp; exact Goes.go (fun _ k => XT.ifnonnullNo h hx rfl hd rfl k) K
theorem acmpY (h : At T m c below) (hx : p.tables.exec = Jvm.exec) (pc' : Nat) {cd : ClassFile.ACond} {x y : Value} {o : Int} (hd : decode c.code pc = .ok (.if_acmp cd o, 3)) (h1 : x.isRef = true) (h2 : y.isRef = true) (hc : XT.acmp cd x y = true) (ho : 0 ≤ (pc : Int) + o) (hp : ((pc : Int) + o).toNat = pc')
    (K : Goes p e below Post (T.setTop (mkF m pc' ls st))) : Goes p e below Post (T.setTop (mkF m pc ls (y :: x :: st))) := Goes.go (fun _ k => XT.acmpYes h hx rfl (pc0 := pc) rfl hd rfl h1 h2 hc ho hp k) K
theorem acmpN (h : At T m c below) (hx : p.tables.exec = Jvm.exec) (pc' : Nat) {cd : ClassFile.ACond} {x y : Value} {o : Int} (hd : decode c.code pc = .ok (.if_acmp cd o, 3)) (h1 : x.isRef = true) (h2 : y.isRef = true) (hc : XT.acmp cd x y = false) (hp : pc + 3 = pc')
    (K : Goes p e below Post (T.setTop (mkF m pc' ls st))) : Goes p e below Post (T.setTop (mkF m pc ls (y :: x :: st))) := by
  subst hp; exact Goes.go (fun _ k => XT.acmpNo h hx rfl hd rfl h1 h2 hc k) K
theorem ifnullV (h : At T m c below) (hx : p.tables.exec = Jvm.exec) (pc' pn : Nat) {v : Value} (hv : v.isRef = true) {o : Int} (hd : decode c.code pc = .ok (.ifnull o, 3)) (ho : 0 ≤ (pc : Int) + o) (hp : ((pc : Int) + o).toNat = pc') (hq : pc + 3 = pn)
    (KY : v = .null → Goes p e below Post (T.setTop (mkF m pc' ls st))) (KN : ¬ v = .null → Goes p e below Post (T.setTop (mkF m pn ls st))) : Goes p e below Post (T.setTop (mkF m pc ls (v :: st))) := by
  subst hq
  rcases ref_cases hv with hv0 | ⟨b, hv0⟩
  · subst hv0; exact Goes.go (fun _ k => XS.ifnullYes h hx rfl (pc0 := pc) rfl hd rfl ho hp k) (KY rfl)
  · subst hv0; exact Goes.go (fun _ k => XS.ifnullNo h hx rfl hd rfl k) (KN (fun q => nomatch q))
theorem ifnonnullV (h : At T m c below) (hx : p.tables.exec = Jvm.exec) (pc' pn : Nat) {v : Value} (hv : v.isRef = true) {o : Int} (hd : decode c.code pc = .ok (.ifnonnull o, 3)) (ho : 0 ≤ (pc : Int) + o) (hp : ((pc : Int) + o).toNat = pc') (hq : pc + 3 = pn)
    (KY : ¬ v = .null → Goes p e below Post (T.setTop (mkF m pc' ls st))) (KN : v = .null → Goes p e below Post (T.setTop (mkF m pn ls st))) : Goes p e below Post (T.setTop (mkF m pc ls (v :: st))) := by
  subst hq
  rcases ref_cases hv with hv0 | ⟨b, hv0⟩
  · subst hv0; exact Goes.go (fun _ k => XT.ifnonnullNo h hx rfl hd rfl k) (KN rfl)
  · subst hv0; exact Goes.go (fun _ k => XT.ifnonnullYes h hx rfl (pc0 := pc) rfl hd rfl ho hp k) (KY (fun q => nomatch q))
end G
end Goes
end Jvm.OwnKit
namespace Jvm.OwnKit
open Sem ClassFile Op Lib Jvm.Stand Jvm.Free Jvm.LawKit Jvm.RoadKit
theorem ext_refl (h : Heap) : Ext h h := ⟨Nat.le_refl _, fun _ _ q => q⟩
theorem ext_trans {h h' h'' : Heap} (A : Ext h h') (B : Ext h' h'') : Ext h h'' := ⟨Nat.le_trans A.1 B.1, fun x c q => B.2 x c (A.2 x c q)⟩
theorem ext_keep {h h' : Heap} (E : Ext h h') (ws : List Addr) : Keep h h' ws := (Keep.refl h ws).ext E
theorem keep_ext {h h' : Heap} {ws : List Addr} (K : Keep h h' ws) (q : ∀ x ∈ ws, h.size ≤ x) : Ext h h' :=
  ⟨K.1, fun x c hx => K.2.1 x c hx fun z => absurd (Array.getElem?_eq_some_iff.mp hx).1 (Nat.not_lt.mpr (q x z))⟩
theorem keep_nil {h h' : Heap} (K : Keep h h' []) : Ext h h' := keep_ext K fun _ q => nomatch q
theorem keep_one {h h' : Heap} {a : Addr} (K : Keep h h' [a]) (q : h.size ≤ a) : Ext h h' := keep_ext K fun x hx => by cases List.mem_singleton.mp hx; exact q
/-- where the walk of a body stands: its start's heap h0, what it may write of it (ws), the tables' base vm0, the state, the heap -/
def Wk (p : Program) (l : Launch) (e : Env) (R : Room) (s : State) (m : MethodId) (args : Array Value) (below : List Frame) (meth : Method) (c : Code) (Z : State) (EL : List (String × Nat)) (h0 : Heap) (ws : List Addr) (vm0 : Vm) (T : State) (h : Heap) (cells slots : Nat) : Prop :=
  ∃ locs, Stand p l e R (s.setVm vm0) m args below meth c T locs cells slots ∧ Fr Z.heap.size locs ∧ T.heap = h ∧ Keep h0 h ws ∧ s.heap = h0 ∧ Ext Z.heap h0 ∧ (∀ x ∈ ws, Z.heap.size ≤ x) ∧ Z.Warmed39 vm0 ∧ (∃ k0, s.Since vm0 k0 ∧ k0 ≤ h.size) ∧ CHr Z EL s.vm h0 vm0 h
section Wk
variable {p : Program} {l : Launch} {e : Env} {R : Room} {s : State} {m : MethodId} {args : Array Value} {below : List Frame} {meth : Method} {c : Code} {Z : State} {EL : List (String × Nat)} {h0 : Heap} {ws : List Addr} {vm0 : Vm} {T : State} {h : Heap} {cells slots : Nat} {a0 : Array Value} {Post : Outcome → State → Prop} {pc : Nat} {ls : Array Slot} {st rest : List Value} {own : String}
theorem Wk.here (W : Wk p l e R s m args below meth c Z EL h0 ws vm0 T h cells slots) : At T m c below := by obtain ⟨_, X, _⟩ := W; exact X.here
theorem Wk.warm (W : Wk p l e R s m args below meth c Z EL h0 ws vm0 T h cells slots) : Z.Warmed39 vm0 := by obtain ⟨_, _, _, _, _, _, _, _, q, _⟩ := W; exact q
theorem Wk.alike (W : Wk p l e R s m args below meth c Z EL h0 ws vm0 T h cells slots) : Z.vm.Alike vm0 := W.warm.alike
theorem Wk.chr (W : Wk p l e R s m args below meth c Z EL h0 ws vm0 T h cells slots) : CHr Z EL s.vm h0 vm0 h := by obtain ⟨_, _, _, _, _, _, _, _, _, _, q⟩ := W; exact q
theorem Wk.ch (W : Wk p l e R s m args below meth c Z EL h0 ws vm0 T h cells slots) : CHv Z EL vm0 h := W.chr.1
theorem Wk.keeps (W : Wk p l e R s m args below meth c Z EL h0 ws vm0 T h cells slots) : Keep h0 h ws := by obtain ⟨_, _, _, _, q, _⟩ := W; exact q
theorem Wk.size (W : Wk p l e R s m args below meth c Z EL h0 ws vm0 T h cells slots) : h0.size ≤ h.size := W.keeps.1
theorem Wk.zsize (W : Wk p l e R s m args below meth c Z EL h0 ws vm0 T h cells slots) : Z.heap.size ≤ h0.size := by obtain ⟨_, _, _, _, _, _, q, _⟩ := W; exact q.1
theorem Wk.mono (W : Wk p l e R s m args below meth c Z EL h0 ws vm0 T h cells slots) {cells' slots' : Nat} (hc : cells ≤ cells') (hn : slots ≤ slots') : Wk p l e R s m args below meth c Z EL h0 ws vm0 T h cells' slots' := by
  obtain ⟨locs, X, r⟩ := W; exact ⟨locs, X.mono hc hn, r⟩
theorem Wk.old (W : Wk p l e R s m args below meth c Z EL h0 ws vm0 T h cells slots) : Ext Z.heap h := by
  obtain ⟨_, _, _, _, K, _, E, hws, _⟩ := W
  exact ⟨Nat.le_trans E.1 K.1, fun x cl q => K.2.1 x cl (E.2 x cl q) fun z => absurd (Array.getElem?_eq_some_iff.mp q).1 (Nat.not_lt.mpr (hws x z))⟩
theorem Wk.wown (W : Wk p l e R s m args below meth c Z EL h0 ws vm0 T h cells slots) (ho : Z.vm.findClass own = some m.cls) : (s.setVm vm0).vm.findClass own = some m.cls := by
  show vm0.findClass own = some m.cls
  rw [W.alike.findClass]; exact ho
theorem Wk.may (W : Wk p l e R s m args below meth c Z EL h0 ws vm0 T h cells slots) {a : Addr} (q : a ∈ ws ∨ h0.size ≤ a) : Z.heap.size ≤ a := by
  obtain ⟨_, _, _, _, _, _, E, hws, _⟩ := W
  exact q.elim (hws a) fun r => Nat.le_trans E.1 r
theorem Wk.grown (W : Wk p l e R s m args below meth c Z EL h0 ws vm0 T h cells slots) {T' : State} {h' : Heap} {k n : Nat} (X' : ∀ locs, Stand p l e R (s.setVm vm0) m args below meth c T locs cells slots → Stand p l e R (s.setVm vm0) m args below meth c T' locs k n) (e' : T'.heap = h') (E : Ext h h') : Wk p l e R s m args below meth c Z EL h0 ws vm0 T' h' k n := by
  obtain ⟨locs, X, N, eh, K, es, O, hws, hZ, ⟨k0, hS, hk⟩, C⟩ := W
  exact ⟨locs, X' locs X, N, e', K.ext E, es, O, hws, hZ, ⟨k0, hS, Nat.le_trans hk E.1⟩, C.trans (CHr.ext E C.1)⟩
theorem Wk.newO (W : Wk p l e R s m args below meth c Z EL h0 ws vm0 T h cells slots) (hx : p.tables.exec = Jvm.exec) (ho : Z.vm.findClass own = some m.cls) {C : String} {index n : Nat} (w : (Cond.classLink own index C).before a0 Z = true) (wi : (Cond.instantiable C n).before a0 Z = true) (wz : (Cond.initialized C).before a0 Z = true)
    (pc' : Nat) (hd : decode c.code pc = .ok (.new index, 3)) (hp : pc + 3 = pc') (hc : cells + 1 ≤ R.cells) (hl : slots + n ≤ R.slots)
    (K : ∀ (T' : State) (h' : Heap) (a : Addr), Wk p l e R s m args below meth c Z EL h0 ws vm0 T' h' (cells + 1) (slots + n) → Ext h h' → a = h.size → Exa Z h' a C → (∀ {O nm d : String} {ty : FieldType}, Laid Z a0 C O nm d → parseFieldDescriptor d = some ty → Fld Z h' a O nm d (defaultValue ty)) → Safe Z EL vm0 h' a → Goes p e below Post (T'.setTop (mkF m pc' ls (.ref a :: st)))) : Goes p e below Post (T.setTop (mkF m pc ls st)) := by
  subst hp
  have ho' := W.wown ho
  have W0 := W
  obtain ⟨locs, X, N, eh, K0, es, O, hws, hZ, ⟨k0, hS, hk⟩, C⟩ := W
  obtain ⟨T', h', X', e', E, A, D, -, stp⟩ := RoadKit.newO X hx hZ ho' w wi wz eh (g := mkF m pc ls st) rfl hd hc hl
  exact Goes.go stp (K T' h' _ ⟨locs, X', N, e', K0.ext E, es, O, hws, hZ, ⟨k0, hS, Nat.le_trans hk E.1⟩, C.trans (CHr.ext E C.1)⟩ E rfl A D fun B => Safe.new (Nat.le_refl _) ((C.1.step fun _ _ _ q => E.2 _ _ q).2 _ B))
theorem Wk.newP (W : Wk p l e R s m args below meth c Z EL h0 ws vm0 T h cells slots) (hx : p.tables.exec = Jvm.exec) {aty : ArrayType} (w : (Cond.arrayClass (newarray.typeOf aty)).before a0 Z = true)
    (pc' : Nat) (hd : decode c.code pc = .ok (.newarray aty, 2)) {n : Int32} (hn : ¬ n < 0) (cap : Nat) (hcap : n.toNatClampNeg ≤ cap) (hp : pc + 2 = pc') (hb : cap * 8 ≤ 536870912) (hc : cells + 1 ≤ R.cells) (hl : slots + cap ≤ R.slots)
    (K : ∀ (T' : State) (h' : Heap) (a : Addr) (k : ClassId), Wk p l e R s m args below meth c Z EL h0 ws vm0 T' h' (cells + 1) (slots + cap) → Ext h h' → a = h.size → Arv Z h' a k (newarray.typeOf aty) n (List.replicate cap (defaultValue (newarray.typeOf aty))) (defaultValue (newarray.typeOf aty)) → Safe Z EL vm0 h' a → Goes p e below Post (T'.setTop (mkF m pc' ls (.ref a :: st)))) : Goes p e below Post (T.setTop (mkF m pc ls (.int n :: st))) := by
  subst hp
  obtain ⟨locs, X, N, eh, K0, es, O, hws, hZ, ⟨k0, hS, hk⟩, C⟩ := W
  obtain ⟨T', h', cA, X', e', E, A, stp⟩ := RoadKit.newP X hx hZ w eh (g := mkF m pc ls (.int n :: st)) rfl hd rfl hn hcap hb hc hl
  exact Goes.go stp (K T' h' _ cA ⟨locs, X', N, e', K0.ext E, es, O, hws, hZ, ⟨k0, hS, Nat.le_trans hk E.1⟩, C.trans (CHr.ext E C.1)⟩ E rfl ((Arv.new A hn).pad (pad_rep [] _ cap)) fun B => Safe.new (Nat.le_refl _) ((C.1.step fun _ _ _ q => E.2 _ _ q).2 _ B))
theorem Wk.castore (W : Wk p l e R s m args below meth c Z EL h0 ws vm0 T h cells slots) (hx : p.tables.exec = Jvm.exec) {a : Addr} {k : ClassId} {n : Int32} {vs : List Value} {d : Value} (V : Arv Z h a k .char n vs d) (ha : a ∈ ws ∨ h0.size ≤ a) {j : Int32} {x : Int32} (x' : Int32) (hn : nar .char x = x') (i : Nat) (hj : j.toNatClampNeg = i) (hin : ¬ j < 0 ∧ j < n) (hi : i < vs.length)
    (pc' : Nat) (hd : decode c.code pc = .ok (.castore, 1)) (hp : pc + 1 = pc')
    (K : ∀ (T' : State) (h' : Heap), Wk p l e R s m args below meth c Z EL h0 ws vm0 T' h' cells slots → Keep h h' [a] → CHr Z EL vm0 h vm0 h' → Arv Z h' a k .char n (vs.set i (.int x')) d → Goes p e below Post (T'.setTop (mkF m pc' ls st))) : Goes p e below Post (T.setTop (mkF m pc ls (.int x :: .int j :: .ref a :: st))) := by
  subst hp
  have hza := W.may ha
  obtain ⟨locs, X, N, eh, K0, es, O, hws, hZ, ⟨k0, hS, hk⟩, C⟩ := W
  obtain ⟨cl, A, q1, S, q3, H, G⟩ := V
  obtain ⟨T', h', X', e', Wr', stp⟩ := RoadKit.stC X hx hZ eh A (j := j) (inb_of S hin) (g := mkF m pc ls (.int x :: .int j :: .ref a :: st)) rfl rfl hd
  rw [show nar .char x = x' from hn] at Wr'
  have C1 := CHr.wr Wr' (Safe.arr hZ.alike A (by intro q; cases q)) C.1
  exact Goes.go stp (K T' h' ⟨_, X', Fr.snoc X' N hza, e', K0.wr Wr' ha, es, O, hws, hZ, ⟨k0, hS, Nat.le_trans hk (Keep.of_wr Wr').1⟩, C.trans C1⟩ (Keep.of_wr Wr') C1 (Arv.set A q1 S q3 H G (by rw [← hn]; exact fits_nar_char _) Wr' i hj hi))
theorem Wk.iastore (W : Wk p l e R s m args below meth c Z EL h0 ws vm0 T h cells slots) (hx : p.tables.exec = Jvm.exec) {a : Addr} {k : ClassId} {n : Int32} {vs : List Value} {d : Value} (V : Arv Z h a k .int n vs d) (ha : a ∈ ws ∨ h0.size ≤ a) {j : Int32} {x : Int32} (x' : Int32) (hn : x = x') (i : Nat) (hj : j.toNatClampNeg = i) (hin : ¬ j < 0 ∧ j < n) (hi : i < vs.length)
    (pc' : Nat) (hd : decode c.code pc = .ok (.iastore, 1)) (hp : pc + 1 = pc')
    (K : ∀ (T' : State) (h' : Heap), Wk p l e R s m args below meth c Z EL h0 ws vm0 T' h' cells slots → Keep h h' [a] → CHr Z EL vm0 h vm0 h' → Arv Z h' a k .int n (vs.set i (.int x')) d → Goes p e below Post (T'.setTop (mkF m pc' ls st))) : Goes p e below Post (T.setTop (mkF m pc ls (.int x :: .int j :: .ref a :: st))) := by
  subst hp
  have hza := W.may ha
  obtain ⟨locs, X, N, eh, K0, es, O, hws, hZ, ⟨k0, hS, hk⟩, C⟩ := W
  obtain ⟨cl, A, q1, S, q3, H, G⟩ := V
  obtain ⟨T', h', X', e', Wr', stp⟩ := RoadKit.stI X hx hZ eh A (j := j) (inb_of S hin) (g := mkF m pc ls (.int x :: .int j :: .ref a :: st)) rfl rfl hd
  rw [show x = x' from hn] at Wr'
  have C1 := CHr.wr Wr' (Safe.arr hZ.alike A (by intro q; cases q)) C.1
  exact Goes.go stp (K T' h' ⟨_, X', Fr.snoc X' N hza, e', K0.wr Wr' ha, es, O, hws, hZ, ⟨k0, hS, Nat.le_trans hk (Keep.of_wr Wr').1⟩, C.trans C1⟩ (Keep.of_wr Wr') C1 (Arv.set A q1 S q3 H G (rfl) Wr' i hj hi))
theorem Wk.lastore (W : Wk p l e R s m args below meth c Z EL h0 ws vm0 T h cells slots) (hx : p.tables.exec = Jvm.exec) {a : Addr} {k : ClassId} {n : Int32} {vs : List Value} {d : Value} (V : Arv Z h a k .long n vs d) (ha : a ∈ ws ∨ h0.size ≤ a) {j : Int32} {x : Int64} (x' : Int64) (hn : x = x') (i : Nat) (hj : j.toNatClampNeg = i) (hin : ¬ j < 0 ∧ j < n) (hi : i < vs.length)
    (pc' : Nat) (hd : decode c.code pc = .ok (.lastore, 1)) (hp : pc + 1 = pc')
    (K : ∀ (T' : State) (h' : Heap), Wk p l e R s m args below meth c Z EL h0 ws vm0 T' h' cells slots → Keep h h' [a] → CHr Z EL vm0 h vm0 h' → Arv Z h' a k .long n (vs.set i (.long x')) d → Goes p e below Post (T'.setTop (mkF m pc' ls st))) : Goes p e below Post (T.setTop (mkF m pc ls (.long x :: .int j :: .ref a :: st))) := by
  subst hp
  have hza := W.may ha
  obtain ⟨locs, X, N, eh, K0, es, O, hws, hZ, ⟨k0, hS, hk⟩, C⟩ := W
  obtain ⟨cl, A, q1, S, q3, H, G⟩ := V
  obtain ⟨T', h', X', e', Wr', stp⟩ := RoadKit.stJ X hx hZ eh A (j := j) (inb_of S hin) (g := mkF m pc ls (.long x :: .int j :: .ref a :: st)) rfl rfl hd
  rw [show x = x' from hn] at Wr'
  have C1 := CHr.wr Wr' (Safe.arr hZ.alike A (by intro q; cases q)) C.1
  exact Goes.go stp (K T' h' ⟨_, X', Fr.snoc X' N hza, e', K0.wr Wr' ha, es, O, hws, hZ, ⟨k0, hS, Nat.le_trans hk (Keep.of_wr Wr').1⟩, C.trans C1⟩ (Keep.of_wr Wr') C1 (Arv.set A q1 S q3 H G (rfl) Wr' i hj hi))
theorem Wk.bastore (W : Wk p l e R s m args below meth c Z EL h0 ws vm0 T h cells slots) (hx : p.tables.exec = Jvm.exec) {a : Addr} {k : ClassId} {n : Int32} {vs : List Value} {d : Value} (V : Arv Z h a k .byte n vs d) (ha : a ∈ ws ∨ h0.size ≤ a) (sf : Safe Z EL vm0 h a) {j : Int32} {x : Int32} (x' : Int32) (hn : nar .byte x = x') (i : Nat) (hj : j.toNatClampNeg = i) (hin : ¬ j < 0 ∧ j < n) (hi : i < vs.length)
    (pc' : Nat) (hd : decode c.code pc = .ok (.bastore, 1)) (hp : pc + 1 = pc')
    (K : ∀ (T' : State) (h' : Heap), Wk p l e R s m args below meth c Z EL h0 ws vm0 T' h' cells slots → Keep h h' [a] → CHr Z EL vm0 h vm0 h' → Arv Z h' a k .byte n (vs.set i (.int x')) d → Goes p e below Post (T'.setTop (mkF m pc' ls st))) : Goes p e below Post (T.setTop (mkF m pc ls (.int x :: .int j :: .ref a :: st))) := by
  subst hp
  have hza := W.may ha
  obtain ⟨locs, X, N, eh, K0, es, O, hws, hZ, ⟨k0, hS, hk⟩, C⟩ := W
  obtain ⟨cl, A, q1, S, q3, H, G⟩ := V
  obtain ⟨T', h', X', e', Wr', stp⟩ := RoadKit.stB X hx hZ eh A (j := j) (inb_of S hin) (g := mkF m pc ls (.int x :: .int j :: .ref a :: st)) rfl rfl hd
  rw [show nar .byte x = x' from hn] at Wr'
  have C1 := CHr.wr Wr' sf C.1
  exact Goes.go stp (K T' h' ⟨_, X', Fr.snoc X' N hza, e', K0.wr Wr' ha, es, O, hws, hZ, ⟨k0, hS, Nat.le_trans hk (Keep.of_wr Wr').1⟩, C.trans C1⟩ (Keep.of_wr Wr') C1 (Arv.set A q1 S q3 H G (by rw [← hn]; exact fits_nar_byte _) Wr' i hj hi))
theorem Wk.caload (W : Wk p l e R s m args below meth c Z EL h0 ws vm0 T h cells slots) (hx : p.tables.exec = Jvm.exec) {a : Addr} {k : ClassId} {n : Int32} {vs : List Value} {d : Value} (V : Arv Z h a k .char n vs d) {j : Int32} (hin : ¬ j < 0 ∧ j < n) (v : Value) (hv : vs.getD j.toNatClampNeg d = v)
    (pc' : Nat) (hd : decode c.code pc = .ok (.caload, 1)) (hp : pc + 1 = pc') (K : Goes p e below Post (T.setTop (mkF m pc' ls (v :: st)))) : Goes p e below Post (T.setTop (mkF m pc ls (.int j :: .ref a :: st))) := by
  subst hp
  obtain ⟨locs, X, N, eh, K0, es, O, hws, hZ, -, C⟩ := W
  obtain ⟨cl, A, q1, S, q3, H, G⟩ := V
  exact Goes.go (fun tg k => X.caload hx (j := j) (v := v) (by rw [eh]; exact A.1) (State.isArrayOf_alike hZ.alike A.2.1) A.2.2 (inb_of S hin) (H.at (inb_of S hin) hv) (g := mkF m pc ls (.int j :: .ref a :: st)) rfl rfl hd tg k) K
theorem Wk.iaload (W : Wk p l e R s m args below meth c Z EL h0 ws vm0 T h cells slots) (hx : p.tables.exec = Jvm.exec) {a : Addr} {k : ClassId} {n : Int32} {vs : List Value} {d : Value} (V : Arv Z h a k .int n vs d) {j : Int32} (hin : ¬ j < 0 ∧ j < n) (v : Value) (hv : vs.getD j.toNatClampNeg d = v)
    (pc' : Nat) (hd : decode c.code pc = .ok (.iaload, 1)) (hp : pc + 1 = pc') (K : Goes p e below Post (T.setTop (mkF m pc' ls (v :: st)))) : Goes p e below Post (T.setTop (mkF m pc ls (.int j :: .ref a :: st))) := by
  subst hp
  obtain ⟨locs, X, N, eh, K0, es, O, hws, hZ, -, C⟩ := W
  obtain ⟨cl, A, q1, S, q3, H, G⟩ := V
  exact Goes.go (fun tg k => X.iaload hx (j := j) (v := v) (by rw [eh]; exact A.1) (State.isArrayOf_alike hZ.alike A.2.1) A.2.2 (inb_of S hin) (H.at (inb_of S hin) hv) (g := mkF m pc ls (.int j :: .ref a :: st)) rfl rfl hd tg k) K
theorem Wk.laload (W : Wk p l e R s m args below meth c Z EL h0 ws vm0 T h cells slots) (hx : p.tables.exec = Jvm.exec) {a : Addr} {k : ClassId} {n : Int32} {vs : List Value} {d : Value} (V : Arv Z h a k .long n vs d) {j : Int32} (hin : ¬ j < 0 ∧ j < n) (v : Value) (hv : vs.getD j.toNatClampNeg d = v)
    (pc' : Nat) (hd : decode c.code pc = .ok (.laload, 1)) (hp : pc + 1 = pc') (K : Goes p e below Post (T.setTop (mkF m pc' ls (v :: st)))) : Goes p e below Post (T.setTop (mkF m pc ls (.int j :: .ref a :: st))) := by
  subst hp
  obtain ⟨locs, X, N, eh, K0, es, O, hws, hZ, -, C⟩ := W
  obtain ⟨cl, A, q1, S, q3, H, G⟩ := V
  exact Goes.go (fun tg k => X.laload hx (j := j) (v := v) (by rw [eh]; exact A.1) (State.isArrayOf_alike hZ.alike A.2.1) A.2.2 (inb_of S hin) (H.at (inb_of S hin) hv) (g := mkF m pc ls (.int j :: .ref a :: st)) rfl rfl hd tg k) K
theorem Wk.baload (W : Wk p l e R s m args below meth c Z EL h0 ws vm0 T h cells slots) (hx : p.tables.exec = Jvm.exec) {a : Addr} {k : ClassId} {n : Int32} {vs : List Value} {d : Value} (V : Arv Z h a k .byte n vs d) {j : Int32} (hin : ¬ j < 0 ∧ j < n) (v : Value) (hv : vs.getD j.toNatClampNeg d = v)
    (pc' : Nat) (hd : decode c.code pc = .ok (.baload, 1)) (hp : pc + 1 = pc') (K : Goes p e below Post (T.setTop (mkF m pc' ls (v :: st)))) : Goes p e below Post (T.setTop (mkF m pc ls (.int j :: .ref a :: st))) := by
  subst hp
  obtain ⟨locs, X, N, eh, K0, es, O, hws, hZ, -, C⟩ := W
  obtain ⟨cl, A, q1, S, q3, H, G⟩ := V
  exact Goes.go (fun tg k => X.baloadBytes hx (j := j) (v := v) (by rw [eh]; exact A.1) (State.isArrayOf_alike hZ.alike A.2.1) A.2.2 (inb_of S hin) (H.at (inb_of S hin) hv) (g := mkF m pc ls (.int j :: .ref a :: st)) rfl rfl hd tg k) K
theorem Wk.arraylength (W : Wk p l e R s m args below meth c Z EL h0 ws vm0 T h cells slots) (hx : p.tables.exec = Jvm.exec) {a : Addr} {k : ClassId} {ty : FieldType} {n : Int32} {vs : List Value} {d : Value} (V : Arv Z h a k ty n vs d)
    (pc' : Nat) (hd : decode c.code pc = .ok (.arraylength, 1)) (hp : pc + 1 = pc') (K : Goes p e below Post (T.setTop (mkF m pc' ls (.int n :: st)))) : Goes p e below Post (T.setTop (mkF m pc ls (.ref a :: st))) := by
  subst hp
  obtain ⟨locs, X, N, eh, K0, es, O, hws, hZ, -, C⟩ := W
  obtain ⟨cl, A, q1, S, q3, H, G⟩ := V
  refine Goes.go (fun tg k => X.arraylength hx (by rw [eh]; exact A.1) (State.isArrayOf_alike hZ.alike A.2.1) (g := mkF m pc ls (.ref a :: st)) rfl rfl hd tg ?_) K
  rw [len_of S q3]; exact k
theorem Wk.getF (W : Wk p l e R s m args below meth c Z EL h0 ws vm0 T h cells slots) (hx : p.tables.exec = Jvm.exec) (ho : Z.vm.findClass own = some m.cls) {R0 O n d host : String} {index : Nat} (w : (Cond.fieldLink own index R0 n d).before a0 Z = true ∨ (Cond.fieldLinkNest own index R0 n d host).before a0 Z = true) (via : Via Z R0 O n d)
    {a : Addr} {v : Value} (F : Fld Z h a O n d v) (pc' : Nat) (hd : decode c.code pc = .ok (.getfield index, 3)) (hp : pc + 3 = pc')
    (K : ∀ (T' : State), Wk p l e R s m args below meth c Z EL h0 ws vm0 T' h cells slots → Goes p e below Post (T'.setTop (mkF m pc' ls (v :: st)))) : Goes p e below Post (T.setTop (mkF m pc ls (.ref a :: st))) := by
  subst hp
  have ho' := W.wown ho
  obtain ⟨locs, X, N, eh, r⟩ := W
  obtain ⟨hK0, hes, hO, hws, hZ, r2⟩ := r
  obtain ⟨T', X', e', stp⟩ := RoadKit.getF X hx hZ ho' w via eh F (g := mkF m pc ls (.ref a :: st)) rfl rfl hd
  exact Goes.go stp (K T' ⟨locs, X', N, e', hK0, hes, hO, hws, hZ, r2⟩)
theorem Wk.getS (W : Wk p l e R s m args below meth c Z EL h0 ws vm0 T h cells slots) (hx : p.tables.exec = Jvm.exec) (ho : Z.vm.findClass own = some m.cls) {R0 O n d : String} {index : Nat} (w : (Cond.fieldLink own index R0 n d).before a0 Z = true) (via : Via Z R0 O n d)
    {v : Value} (F : Sta Z h O n d v) (pc' : Nat) (hd : decode c.code pc = .ok (.getstatic index, 3)) (hp : pc + 3 = pc')
    (K : ∀ (T' : State), Wk p l e R s m args below meth c Z EL h0 ws vm0 T' h cells slots → Goes p e below Post (T'.setTop (mkF m pc' ls (v :: st)))) : Goes p e below Post (T.setTop (mkF m pc ls st)) := by
  subst hp
  have ho' := W.wown ho
  obtain ⟨locs, X, N, eh, r⟩ := W
  obtain ⟨hK0, hes, hO, hws, hZ, r2⟩ := r
  obtain ⟨T', X', e', stp⟩ := RoadKit.getS (host := "") X hx hZ ho' w via eh F (g := mkF m pc ls st) rfl hd
  exact Goes.go stp (K T' ⟨locs, X', N, e', hK0, hes, hO, hws, hZ, r2⟩)
theorem Wk.putF (W : Wk p l e R s m args below meth c Z EL h0 ws vm0 T h cells slots) (hx : p.tables.exec = Jvm.exec) (ho : Z.vm.findClass own = some m.cls) {R0 O n d C : String} {index kk : Nat} {ty : FieldType} (w : (Cond.fieldLink own index R0 n d).before a0 Z = true) (via : Via Z R0 O n d)
    {a : Addr} {v old : Value} (v' : Value) (F : Fld Z h a O n d old) (E : Exa Z h a C) (L : (Cond.lays C O n d).before a0 Z = true ∨ ((Cond.laysFinal C O n d).before a0 Z = true ∧ own = O ∧ meth.name = "<init>")) (wi : (Cond.instantiable C kk).before a0 Z = true)
    (hty : parseFieldDescriptor d = some ty) (hn : narrow ty v = v') (hf : fits ty v' = true) (ha : a ∈ ws ∨ h0.size ≤ a) (sf : Safe Z EL vm0 h a) (pc' : Nat) (hd : decode c.code pc = .ok (.putfield index, 3)) (hp : pc + 3 = pc')
    (K : ∀ (T' : State) (h' : Heap), Wk p l e R s m args below meth c Z EL h0 ws vm0 T' h' cells slots → Wr h h' a (RoadKit.slotOf Z O n d) v' → CHr Z EL vm0 h vm0 h' → Goes p e below Post (T'.setTop (mkF m pc' ls st))) : Goes p e below Post (T.setTop (mkF m pc ls (v :: .ref a :: st))) := by
  subst hp
  have hza := W.may ha
  have ho' := W.wown ho
  obtain ⟨locs, X, N, eh, K0, es, O', hws, hZ, ⟨k0, hS, hk⟩, C'⟩ := W
  obtain ⟨T', h', X', e', Wr', stp⟩ := RoadKit.putFN X hx hZ ho' w via eh F E L wi hty hn hf (g := mkF m pc ls (v :: .ref a :: st)) rfl rfl hd
  have C1 := CHr.wr Wr' sf C'.1
  exact Goes.go stp (K T' h' ⟨_, X', Fr.snoc X' N hza, e', K0.wr Wr' ha, es, O', hws, hZ, ⟨k0, hS, Nat.le_trans hk (Keep.of_wr Wr').1⟩, C'.trans C1⟩ Wr' C1)
theorem Wk.initO (W : Wk p l e R s m args below meth c Z EL h0 ws vm0 T h cells slots) (hx : p.tables.exec = Jvm.exec) (ho : Z.vm.findClass own = some m.cls) {index : Nat} (w1 : (Cond.methodLink own index Lib.objectInit).before a0 Z = true) (w2 : (Cond.instanceMethod Lib.objectInit).before a0 Z = true) (w3 : (Cond.code Lib.objectInit ⟨#[0xb1]⟩ 1 none).before a0 Z = true)
    (hsz : ls.size = c.maxLocals) {a : Addr} (pc' : Nat) (hd : decode c.code pc = .ok (.invokespecial index, 3)) (hp : pc + 3 = pc') (hf : 1 ≤ R.frames) (Wd : Nat) (hW : (st.map fun v => v.category).sum ≤ Wd) (hl : Wd + 12 ≤ R.locals)
    (K : ∀ (T' : State), Wk p l e R s m args below meth c Z EL h0 ws vm0 T' h cells slots → Goes p e below Post (T'.setTop (mkF m pc' ls st))) : Goes p e below Post (T.setTop (mkF m pc ls (.ref a :: st))) := by
  subst hp
  have ho' := W.wown ho
  obtain ⟨locs, X, N, eh, r⟩ := W
  obtain ⟨hK0, hes, hO, hws, hZ, r2⟩ := r
  obtain ⟨T', X', e', stp⟩ := RoadKit.initO X hx hZ ho' w1 w2 w3 eh (g := mkF m pc ls (.ref a :: st)) rfl hsz rfl hd hf (W := Wd) (by show 2 * 0 + _ ≤ _; omega) hl
  exact Goes.go stp (K T' ⟨locs, X', N, e', hK0, hes, hO, hws, hZ, r2⟩)
theorem Wk.ldcI (W : Wk p l e R s m args below meth c Z EL h0 ws vm0 T h cells slots) (hx : p.tables.exec = Jvm.exec) (ho : Z.vm.findClass own = some m.cls) {index : Nat} {v : Int32} (w : (Cond.constant own index v).before a0 Z = true)
    (pc' : Nat) (hd : decode c.code pc = .ok (.ldc index, 2)) (hp : pc + 2 = pc') (K : Goes p e below Post (T.setTop (mkF m pc' ls (.int v :: st)))) : Goes p e below Post (T.setTop (mkF m pc ls st)) := by
  subst hp
  have ho' := W.wown ho
  have hZ := W.warm
  obtain ⟨locs, X, r⟩ := W
  exact Goes.go (X.ldcInt hx ho' (mvT (s := s.setVm vm0) hZ w) (g := mkF m pc ls st) rfl hd) K
theorem Wk.ldc2 (W : Wk p l e R s m args below meth c Z EL h0 ws vm0 T h cells slots) (hx : p.tables.exec = Jvm.exec) (ho : Z.vm.findClass own = some m.cls) {index : Nat} {v : Int64} (w : (Cond.constantLong own index v).before a0 Z = true)
    (pc' : Nat) (hd : decode c.code pc = .ok (.ldc2_w index, 3)) (hp : pc + 3 = pc') (K : Goes p e below Post (T.setTop (mkF m pc' ls (.long v :: st)))) : Goes p e below Post (T.setTop (mkF m pc ls st)) := by
  subst hp
  have ho' := W.wown ho
  have hZ := W.warm
  obtain ⟨locs, X, r⟩ := W
  exact Goes.go (X.ldc2Long hx ho' (mvT (s := s.setVm vm0) hZ w) (g := mkF m pc ls st) rfl hd) K
theorem Wk.castY (W : Wk p l e R s m args below meth c Z EL h0 ws vm0 T h cells slots) (hx : p.tables.exec = Jvm.exec) (ho : Z.vm.findClass own = some m.cls) {C : String} {index : Nat} (w : (Cond.classLink own index C).before a0 Z = true) {a : Addr} (F : Ins Z h a C true)
    (pc' : Nat) (hd : decode c.code pc = .ok (.checkcast index, 3)) (hp : pc + 3 = pc') (K : ∀ (T' : State), Wk p l e R s m args below meth c Z EL h0 ws vm0 T' h cells slots → Goes p e below Post (T'.setTop (mkF m pc' ls (.ref a :: st)))) : Goes p e below Post (T.setTop (mkF m pc ls (.ref a :: st))) := by
  subst hp
  have ho' := W.wown ho
  obtain ⟨locs, X, N, eh, r⟩ := W
  obtain ⟨hK0, hes, hO, hws, hZ, r2⟩ := r
  obtain ⟨T', X', e', stp⟩ := RoadKit.castY X hx hZ ho' w eh F (g := mkF m pc ls (.ref a :: st)) rfl rfl hd
  exact Goes.go stp (K T' ⟨locs, X', N, e', hK0, hes, hO, hws, hZ, r2⟩)
theorem Wk.instY (W : Wk p l e R s m args below meth c Z EL h0 ws vm0 T h cells slots) (hx : p.tables.exec = Jvm.exec) (ho : Z.vm.findClass own = some m.cls) {C : String} {index : Nat} (w : (Cond.classLink own index C).before a0 Z = true) {a : Addr} (F : Ins Z h a C true)
    (pc' : Nat) (hd : decode c.code pc = .ok (.instanceof index, 3)) (hp : pc + 3 = pc') (K : ∀ (T' : State), Wk p l e R s m args below meth c Z EL h0 ws vm0 T' h cells slots → Goes p e below Post (T'.setTop (mkF m pc' ls (.int 1 :: st)))) : Goes p e below Post (T.setTop (mkF m pc ls (.ref a :: st))) := by
  subst hp
  have ho' := W.wown ho
  obtain ⟨locs, X, N, eh, r⟩ := W
  obtain ⟨hK0, hes, hO, hws, hZ, r2⟩ := r
  obtain ⟨T', X', e', stp⟩ := RoadKit.instY X hx hZ ho' w eh F (g := mkF m pc ls (.ref a :: st)) rfl rfl hd
  exact Goes.go stp (K T' ⟨locs, X', N, e', hK0, hes, hO, hws, hZ, r2⟩)
theorem Wk.castNull (W : Wk p l e R s m args below meth c Z EL h0 ws vm0 T h cells slots) (hx : p.tables.exec = Jvm.exec) {index : Nat} (pc' : Nat) (hd : decode c.code pc = .ok (.checkcast index, 3)) (hp : pc + 3 = pc') (K : Goes p e below Post (T.setTop (mkF m pc' ls (.null :: st)))) : Goes p e below Post (T.setTop (mkF m pc ls (.null :: st))) := by
  subst hp
  obtain ⟨locs, X, r⟩ := W
  exact Goes.go (X.checkcastNull hx (g := mkF m pc ls (.null :: st)) rfl rfl hd) K
theorem Wk.instNull (W : Wk p l e R s m args below meth c Z EL h0 ws vm0 T h cells slots) (hx : p.tables.exec = Jvm.exec) {index : Nat} (pc' : Nat) (hd : decode c.code pc = .ok (.instanceof index, 3)) (hp : pc + 3 = pc') (K : Goes p e below Post (T.setTop (mkF m pc' ls (.int 0 :: st)))) : Goes p e below Post (T.setTop (mkF m pc ls (.null :: st))) := by
  subst hp
  obtain ⟨locs, X, r⟩ := W
  exact Goes.go (X.instanceofNull hx (g := mkF m pc ls (.null :: st)) rfl rfl hd) K
theorem Wk.instNo (W : Wk p l e R s m args below meth c Z EL h0 ws vm0 T h cells slots) (hx : p.tables.exec = Jvm.exec) (ho : Z.vm.findClass own = some m.cls) {C D : String} {index : Nat} (w : (Cond.classLink own index D).before a0 Z = true) {a : Addr} (E : Exa Z h a C) (F : ∃ c t, Z.vm.findClass C = some c ∧ Z.vm.findClass D = some t ∧ Z.vm.assignable c t = false)
    (pc' : Nat) (hd : decode c.code pc = .ok (.instanceof index, 3)) (hp : pc + 3 = pc') (K : ∀ (T' : State), Wk p l e R s m args below meth c Z EL h0 ws vm0 T' h cells slots → Goes p e below Post (T'.setTop (mkF m pc' ls (.int 0 :: st)))) : Goes p e below Post (T.setTop (mkF m pc ls (.ref a :: st))) := by
  subst hp
  have ho' := W.wown ho
  obtain ⟨locs, X, N, eh, r⟩ := W
  obtain ⟨hK0, hes, hO, hws, hZ, r2⟩ := r
  obtain ⟨T', X', e', stp⟩ := RoadKit.instNo X hx hZ ho' w eh E F (g := mkF m pc ls (.ref a :: st)) rfl rfl hd
  exact Goes.go stp (K T' ⟨locs, X', N, e', hK0, hes, hO, hws, hZ, r2⟩)
theorem Wk.newR (W : Wk p l e R s m args below meth c Z EL h0 ws vm0 T h cells slots) (hx : p.tables.exec = Jvm.exec) (ho : Z.vm.findClass own = some m.cls) {C : String} {index : Nat} (w1 : (Cond.classLink own index C).before a0 Z = true) (w2 : (Cond.arrayOver (.object C)).before a0 Z = true)
    (pc' : Nat) (hd : decode c.code pc = .ok (.anewarray index, 3)) {n : Int32} (hn : ¬ n < 0) (cap : Nat) (hcap : n.toNatClampNeg ≤ cap) (hp : pc + 3 = pc') (hb : cap * 8 ≤ 536870912) (hc : cells + 1 ≤ R.cells) (hl : slots + cap ≤ R.slots)
    (K : ∀ (T' : State) (h' : Heap) (a : Addr) (k : ClassId), Wk p l e R s m args below meth c Z EL h0 ws vm0 T' h' (cells + 1) (slots + cap) → Ext h h' → a = h.size → Arv Z h' a k (.object C) n (List.replicate cap .null) .null → Ovr Z k C → Safe Z EL vm0 h' a → Goes p e below Post (T'.setTop (mkF m pc' ls (.ref a :: st)))) : Goes p e below Post (T.setTop (mkF m pc ls (.int n :: st))) := by
  subst hp
  have ho' := W.wown ho
  obtain ⟨locs, X, N, eh, K0, es, O, hws, hZ, ⟨k0, hS, hk⟩, C'⟩ := W
  obtain ⟨T', h', cA, X', e', E, A, Ov, stp⟩ := RoadKit.newR X hx hZ ho' w1 w2 eh (g := mkF m pc ls (.int n :: st)) rfl hd rfl hn hcap hb hc hl
  exact Goes.go stp (K T' h' _ cA ⟨locs, X', N, e', K0.ext E, es, O, hws, hZ, ⟨k0, hS, Nat.le_trans hk E.1⟩, C'.trans (CHr.ext E C'.1)⟩ E rfl ((Arv.new A hn).pad (pad_rep [] _ cap)) Ov fun B => Safe.new (Nat.le_refl _) ((C'.1.step fun _ _ _ q => E.2 _ _ q).2 _ B))
theorem Wk.aastore (W : Wk p l e R s m args below meth c Z EL h0 ws vm0 T h cells slots) (hx : p.tables.exec = Jvm.exec) {a : Addr} {k : ClassId} {n : Int32} {vs : List Value} {d : Value} {C : String} (V : Arv Z h a k (.object C) n vs d) (ha : a ∈ ws ∨ h0.size ≤ a) {j : Int32} {x : Value} (hxr : x.isRef = true) (hst : ∀ cl : Cell, Arr Z h a cl (.object C) → cl.cls = k → Sto Z h a x) (i : Nat) (hj : j.toNatClampNeg = i) (hin : ¬ j < 0 ∧ j < n) (hi : i < vs.length)
    (pc' : Nat) (hd : decode c.code pc = .ok (.aastore, 1)) (hp : pc + 1 = pc')
    (K : ∀ (T' : State) (h' : Heap), Wk p l e R s m args below meth c Z EL h0 ws vm0 T' h' cells slots → Keep h h' [a] → CHr Z EL vm0 h vm0 h' → Arv Z h' a k (.object C) n (vs.set i x) d → Goes p e below Post (T'.setTop (mkF m pc' ls st))) : Goes p e below Post (T.setTop (mkF m pc ls (x :: .int j :: .ref a :: st))) := by
  subst hp
  have hza := W.may ha
  obtain ⟨locs, X, N, eh, K0, es, O, hws, hZ, ⟨k0, hS, hk⟩, C'⟩ := W
  obtain ⟨cl, A, q1, S, q3, H, G⟩ := V
  obtain ⟨T', h', X', e', Wr', stp⟩ := RoadKit.stR X hx hZ eh A (j := j) (inb_of S hin) rfl (hst cl A q1) (g := mkF m pc ls (x :: .int j :: .ref a :: st)) rfl rfl hd
  have C1 := CHr.wr Wr' (Safe.arr hZ.alike A (by intro q; cases q)) C'.1
  exact Goes.go stp (K T' h' ⟨_, X', Fr.snoc X' N hza, e', K0.wr Wr' ha, es, O, hws, hZ, ⟨k0, hS, Nat.le_trans hk (Keep.of_wr Wr').1⟩, C'.trans C1⟩ (Keep.of_wr Wr') C1 (Arv.set A q1 S q3 H G (by cases x <;> simp [Value.isRef] at hxr <;> rfl) Wr' i hj hi))
theorem Wk.arraycopy (W : Wk p l e R s m args below meth c Z EL h0 ws vm0 T h cells slots) (hx : p.tables.exec = Jvm.exec) (ho : Z.vm.findClass own = some m.cls) {index : Nat} (w1 : (Cond.methodLink own index Jvm.Stand.acN).before a0 Z = true) (w2 : (Cond.native Jvm.Stand.acN).before a0 Z = true) (w3 : (Cond.static Jvm.Stand.acN).before a0 Z = true) (w4 : (Cond.initialized "java/lang/System").before a0 Z = true)
    {a b : Addr} {k k' : ClassId} {ty : FieldType} {z z' sp dp nn : Int32} {vs vd : List Value} {dv dd : Value} (us : List Value) (V : Arv Z h a k ty z vs dv) (B : Arv Z h b k' ty z' vd dd) (hty : refKind ty = false) (h1 : ¬ sp < 0) (h2 : ¬ dp < 0) (h3 : ¬ nn < 0) (h4 : sp.toNatClampNeg + nn.toNatClampNeg ≤ z.toNatClampNeg) (h5 : dp.toNatClampNeg + nn.toNatClampNeg ≤ z'.toNatClampNeg)
    (hus : us = (List.range nn.toNatClampNeg).map fun i => vs.getD (sp.toNatClampNeg + i) dv) (hl : dp.toNatClampNeg + nn.toNatClampNeg ≤ vd.length) (hb : b ∈ ws ∨ h0.size ≤ b) (sf : Safe Z EL vm0 h b) (hsz : ls.size = c.maxLocals) (pc' : Nat) (hd : decode c.code pc = .ok (.invokestatic index, 3)) (hp : pc + 3 = pc') (hf : 1 ≤ R.frames) (Wd : Nat) (hW : (st.map fun v => v.category).sum ≤ Wd) (hlo : Wd + (nativeFrameWords "java/lang/System" "arraycopy" 5 + 11) ≤ R.locals)
    (K : ∀ (T' : State) (h' : Heap), Wk p l e R s m args below meth c Z EL h0 ws vm0 T' h' cells slots → Keep h h' [b] → CHr Z EL vm0 h vm0 h' → Arv Z h' b k' ty z' (vd.take dp.toNatClampNeg ++ us ++ vd.drop (dp.toNatClampNeg + nn.toNatClampNeg)) dd → Goes p e below Post (T'.setTop (mkF m pc' ls st))) : Goes p e below Post (T.setTop (mkF m pc ls (.int nn :: .int dp :: .ref b :: .int sp :: .ref a :: st))) := by
  subst hp
  have hzb := W.may hb
  have ho' := W.wown ho
  obtain ⟨locs, X, N, eh, K0, es, O, hws, hZ, ⟨k0, hS, hk⟩, C⟩ := W
  obtain ⟨T', h', L, X', e', N', K', B', stp⟩ := cpA X hx hZ ho' w1 w2 w3 w4 eh V B (Or.inl ⟨rfl, hty⟩) h1 h2 h3 h4 h5 hus hl N hzb (g := mkF m pc ls (.int nn :: .int dp :: .ref b :: .int sp :: .ref a :: st)) rfl hsz rfl hd hf (W := Wd) (by show 2 * 0 + _ ≤ _; omega) hlo
  have C1 := CHr.keep K' (fun x hx => by cases List.mem_singleton.mp hx; exact sf) C.1
  exact Goes.go stp (K T' h' ⟨L, X', N', e', K0.trans K' (fun x hx => by cases List.mem_singleton.mp hx; exact hb), es, O, hws, hZ, ⟨k0, hS, Nat.le_trans hk K'.1⟩, C.trans C1⟩ K' C1 B')
end Wk
/-- what a callee asks of the point and of its arguments; what it leaves -/
abbrev PreB (R : Room) (as' : Array Value) (h : Heap) (mc ms : Nat) : Pt → Array Value → Prop := fun A a => a = as' ∧ A.U.heap = h ∧ A.cells + mc ≤ R.cells ∧ A.slots + ms ≤ R.slots
abbrev PostB (Z : State) (h : Heap) (ws : List Addr) (Q : Option Value → Heap → Prop) (mc ms : Nat) : Pt → Array Value → Option Value → Pt → Prop := fun A _ v B => ∃ L, (Fr Z.heap.size L ∧ Keep h B.U.heap ws ∧ Q v B.U.heap) ∧ B.locs = A.locs ++ L ∧ B.cells = A.cells + mc ∧ B.slots = A.slots + ms
abbrev PostBW (Z : State) (EL : List (String × Nat)) (vm0 : Vm) (h : Heap) (ws : List Addr) (Q : Option Value → Heap → Prop) (mc ms : Nat) : Pt → Array Value → Option Value → Pt → Prop := fun A _ v B => ∃ L, (Fr Z.heap.size L ∧ Keep h B.U.heap ws ∧ Q v B.U.heap) ∧ B.locs = A.locs ++ L ∧ B.cells = A.cells + mc ∧ B.slots = A.slots + ms ∧ CHr Z EL vm0 h B.U.vm B.U.heap
/-- the end of a body that interns nothing -/
def PostN (s Z : State) (h0 : Heap) (ws : List Addr) (Q : Option Value → Heap → Prop) (mc ms : Nat) (o : Outcome) (U : State) : Prop :=
  ∃ v L, o = .returned v ∧ (Fr Z.heap.size L ∧ Keep h0 U.heap ws ∧ Q v U.heap) ∧ FrameEnd s o U L mc ms
/-- the end of a body that may intern -/
def PostW (s Z : State) (EL : List (String × Nat)) (h0 : Heap) (ws : List Addr) (Q : Option Value → Heap → Prop) (mc ms : Nat) (o : Outcome) (U : State) : Prop :=
  ∃ v L, o = .returned v ∧ (Fr Z.heap.size L ∧ Keep h0 U.heap ws ∧ Q v U.heap) ∧ CHr Z EL s.vm h0 U.vm U.heap ∧ ReturnedEndW s o U L mc ms
/-- the contract of a body that interns nothing -/
def CN (wl : List Cond) (l : Launch) (Z : State) (y : MethodName) (bytes : ByteArray) (ml : Nat) (ret : Option FieldType) (rm : Room) (as' : Array Value) (h0 : Heap) (ws : List Addr) (Q : Option Value → Heap → Prop) : Prop :=
  MetFree l y (head1 (Cond.code y bytes ml ret :: wl) rm) (fun a U => a = as' ∧ Z.Warmed39 U.vm ∧ U.heap = h0) (fun _ _ _ _ _ => True) (fun _ U o U' => PostN U Z h0 ws Q rm.cells rm.slots o U')
/-- the contract of a body that may intern -/
def CW (wl : List Cond) (l : Launch) (Z : State) (EL : List (String × Nat)) (y : MethodName) (bytes : ByteArray) (ml : Nat) (ret : Option FieldType) (rm : Room) (as' : Array Value) (h0 : Heap) (ws : List Addr) (Q : Option Value → Heap → Prop) : Prop :=
  MetFree l y (head1 (Cond.code y bytes ml ret :: wl) rm) (fun a U => a = as' ∧ Z.Warmed39 U.vm ∧ U.heap = h0 ∧ CHv Z EL U.vm h0 ∧ ∀ x ∈ ws, Safe Z EL U.vm h0 x) (fun _ _ _ _ _ => True) (fun _ U o U' => PostW U Z EL h0 ws Q rm.cells rm.slots o U')
section Calls
variable {p : Program} {l : Launch} {e : Env} {R : Room} {s : State} {m : MethodId} {args : Array Value} {below : List Frame} {meth : Method} {c : Code} {Z : State} {EL : List (String × Nat)} {h0 : Heap} {ws : List Addr} {vm0 : Vm} {T : State} {h : Heap} {cells slots : Nat} {a0 : Array Value} {Post : Outcome → State → Prop} {pc : Nat} {ls : Array Slot} {st rest : List Value} {own : String}
theorem CN.back {y : MethodName} {bytes : ByteArray} {ml : Nat} {ret : Option FieldType} {rm : Room} {as' : Array Value} {len Wd : Nat} {Q : Option Value → Heap → Prop} (hM : CN [] l Z y bytes ml ret rm as' h ws Q) (hZ : Z.Warmed39 vm0) (wc : (Cond.code y bytes ml ret).before a0 Z = true) (wz : (Cond.initialized y.cls).before a0 Z = true) (hf : rm.frames + 1 ≤ R.frames) (hl : Wd + (ml + 11) + rm.locals ≤ R.locals) :
    Back l R p e below (s.setVm vm0) args y len Wd (PreB R as' h rm.cells rm.slots) (PostB Z h ws Q rm.cells rm.slots) :=
  backOf (s := s.setVm vm0) (Q := fun v h' L => Fr Z.heap.size L ∧ Keep h h' ws ∧ Q v h') hM hZ wc wz hf hl
theorem CW.back {y : MethodName} {bytes : ByteArray} {ml : Nat} {ret : Option FieldType} {rm : Room} {as' : Array Value} {len Wd : Nat} {Q : Option Value → Heap → Prop} (hM : CW [] l Z EL y bytes ml ret rm as' h ws Q) (hZ : Z.Warmed39 vm0) (wc : (Cond.code y bytes ml ret).before a0 Z = true) (wz : (Cond.initialized y.cls).before a0 Z = true) (hf : rm.frames + 1 ≤ R.frames) (hl : Wd + (ml + 11) + rm.locals ≤ R.locals)
    (hEL : EW Z a0 EL) (H : CHv Z EL vm0 h) (hlt : ∀ x ∈ ws, x < h.size) (hsf : ∀ x ∈ ws, Safe Z EL vm0 h x) :
    BackS l R p e below (s.setVm vm0) args y len Wd (PreB R as' h rm.cells rm.slots) (PostBW Z EL vm0 h ws Q rm.cells rm.slots) :=
  BackS.of_freeW (bytes := bytes) (maxL := ml) (ret := ret) (E := fun _ first o t L k n => k = rm.cells ∧ n = rm.slots ∧ (∃ v, o = .returned v ∧ (Fr Z.heap.size L ∧ Keep h t.heap ws ∧ Q v t.heap)) ∧ CHr Z EL first.vm h t.vm t.heap) hM hf hl
    (fun m meth c A a Y hp => have hU : Z.Warmed39 A.U.vm := wtrans (s := s.setVm vm0) hZ Y.warmed
      ⟨by show (Cond.and _ .tt).before a A.U = true; rw [Cond.before_and, mv hU wc]; rfl, mv hU wc, mv hU wz, hp.2.2.1, hp.2.2.2⟩)
    (fun m meth c A a g mk Y hp => ⟨hp.1, wtrans (s := s.setVm vm0) hZ Y.warmed, hp.2.1, (CHv.at Y hZ hEL H).1, fun x hx => (CHv.at Y hZ hEL H).safe (hlt x hx) (hsf x hx)⟩) (fun _ _ _ _ _ _ _ _ _ => trivial)
    (fun _ _ _ _ ⟨v, L, h1, h2, h3, h4⟩ => ⟨L, _, _, h4, rfl, rfl, ⟨v, h1, h2⟩, h3⟩)
    (fun m meth c A a g mk v t L k n Y hp _ _ ⟨e1, e2, ⟨v', e3, e4⟩, e5⟩ => by
      cases e3; subst e1 e2
      exact ⟨L, e4, rfl, rfl, rfl, (CHv.at Y hZ hEL H).trans e5⟩)
theorem Wk.callS (W : Wk p l e R s m args below meth c Z EL h0 ws vm0 T h cells slots) (hx : p.tables.exec = Jvm.exec) (ho : Z.vm.findClass own = some m.cls) {index : Nat} {y : MethodName} {bytes : ByteArray} {ml : Nat} {ret : Option FieldType} (w1 : (Cond.methodLink own index y).before a0 Z = true) (w2 : (Cond.static y).before a0 Z = true) (w3 : (Cond.initialized y.cls).before a0 Z = true) (w4 : (Cond.code y bytes ml ret).before a0 Z = true) (hy : y.cls ≠ "java/lang/invoke/MethodHandle" ∧ y.cls ≠ "java/lang/invoke/VarHandle")
    {Wd mc ms : Nat} {as' : Array Value} {ws' : List Addr} {Q : Option Value → Heap → Prop} (hK : Back l R p e below (s.setVm vm0) args y 3 Wd (PreB R as' h mc ms) (PostB Z h ws' Q mc ms)) (hsz : ls.size = c.maxLocals) (argsL rest : List Value) (hlen : ∀ sig, parseMethodDescriptor y.desc = some sig → argsL.length = sig.parameters.length) (hst : st = argsL.reverse ++ rest) (has : argsL.toArray = as') (hW : (rest.map fun v => v.category).sum ≤ Wd) (pc' : Nat) (hd : decode c.code pc = .ok (.invokestatic index, 3)) (hp : pc + 3 = pc') (hc : cells + mc ≤ R.cells) (hs : slots + ms ≤ R.slots) (hws' : ∀ x ∈ ws', (x ∈ ws ∨ h0.size ≤ x) ∧ Safe Z EL vm0 h x)
    (K : ∀ (v : Option Value) (T' : State) (h' : Heap), Wk p l e R s m args below meth c Z EL h0 ws vm0 T' h' (cells + mc) (slots + ms) → Keep h h' ws' → CHr Z EL vm0 h vm0 h' → Q v h' → Goes p e below Post (T'.setTop (mkF m pc' ls (v.toList ++ rest)))) : Goes p e below Post (T.setTop (mkF m pc ls st)) := by
  subst hp hst
  have ho' := W.wown ho
  obtain ⟨locs, X, N, eh, K0, es, O, hws, hZ, ⟨k0, hS, hk⟩, C⟩ := W
  obtain ⟨v, _, ⟨T1, L1', k1, n1⟩, -, X1, ⟨L1, ⟨q1, q2, q3⟩, l1, y1, z1⟩, stp⟩ := Jvm.LawKit.callS X hx ho' (mvT (s := s.setVm vm0) hZ w1) (mvT (s := s.setVm vm0) hZ w2) (mvT (s := s.setVm vm0) hZ w3) (mvT (s := s.setVm vm0) hZ w4) hy hK (g := mkF m pc ls (argsL.reverse ++ rest)) rfl hsz hlen rfl (by show 2 * 0 + _ ≤ _; omega) hd (fun _ _ => ⟨has, eh, hc, hs⟩)
  dsimp only [Pt.U, Pt.locs, Pt.cells, Pt.slots] at X1 l1 y1 z1 stp q1 q2 q3
  subst l1 y1 z1
  have C1 := CHr.keep q2 (fun x hx => (hws' x hx).2) C.1
  exact Goes.go stp (K v T1 T1.heap ⟨_, X1, N.app q1, rfl, K0.trans q2 (fun x hx => (hws' x hx).1), es, O, hws, hZ, ⟨k0, hS, Nat.le_trans hk q2.1⟩, C.trans C1⟩ q2 C1 q3)
theorem Wk.special (W : Wk p l e R s m args below meth c Z EL h0 ws vm0 T h cells slots) (hx : p.tables.exec = Jvm.exec) (ho : Z.vm.findClass own = some m.cls) {index : Nat} {y : MethodName} (hy1 : y.name = "<init>") {bytes : ByteArray} {ml : Nat} (w1 : (Cond.methodLink own index y).before a0 Z = true) (w2 : (Cond.instanceMethod y).before a0 Z = true) (w4 : (Cond.code y bytes ml none).before a0 Z = true) (hy : y.cls ≠ "java/lang/invoke/MethodHandle" ∧ y.cls ≠ "java/lang/invoke/VarHandle")
    {Wd mc ms : Nat} {as' : Array Value} {ws' : List Addr} {Q : Option Value → Heap → Prop} (hK : Back l R p e below (s.setVm vm0) args y 3 Wd (PreB R as' h mc ms) (PostB Z h ws' Q mc ms)) (a : Addr) (hsz : ls.size = c.maxLocals) (argsL rest : List Value) (hlen : ∀ sig, parseMethodDescriptor y.desc = some sig → argsL.length = sig.parameters.length) (hst : st = argsL.reverse ++ .ref a :: rest) (has : (Value.ref a :: argsL).toArray = as') (hW : (rest.map fun v => v.category).sum ≤ Wd) (pc' : Nat) (hd : decode c.code pc = .ok (.invokespecial index, 3)) (hp : pc + 3 = pc') (hc : cells + mc ≤ R.cells) (hs : slots + ms ≤ R.slots) (hws' : ∀ x ∈ ws', (x ∈ ws ∨ h0.size ≤ x) ∧ Safe Z EL vm0 h x)
    (K : ∀ (v : Option Value) (T' : State) (h' : Heap), Wk p l e R s m args below meth c Z EL h0 ws vm0 T' h' (cells + mc) (slots + ms) → Keep h h' ws' → CHr Z EL vm0 h vm0 h' → Q v h' → Goes p e below Post (T'.setTop (mkF m pc' ls (v.toList ++ rest)))) : Goes p e below Post (T.setTop (mkF m pc ls st)) := by
  subst hp hst
  have ho' := W.wown ho
  obtain ⟨locs, X, N, eh, K0, es, O, hws, hZ, ⟨k0, hS, hk⟩, C⟩ := W
  obtain ⟨v, _, ⟨T1, L1', k1, n1⟩, -, X1, ⟨L1, ⟨q1, q2, q3⟩, l1, y1, z1⟩, stp⟩ := X.specialBack hx hy1 ho' (mvT (s := s.setVm vm0) hZ w1) (mvT (s := s.setVm vm0) hZ w2) (mvT (s := s.setVm vm0) hZ w4) hy hK (g := mkF m pc ls (argsL.reverse ++ .ref a :: rest)) rfl hsz (Steps.refl _) hlen rfl (by show 2 * 0 + _ ≤ _; omega) hd (fun _ _ => ⟨has, eh, hc, hs⟩)
  dsimp only [Pt.U, Pt.locs, Pt.cells, Pt.slots] at X1 l1 y1 z1 stp q1 q2 q3
  subst l1 y1 z1
  have C1 := CHr.keep q2 (fun x hx => (hws' x hx).2) C.1
  exact Goes.run stp (K v T1 T1.heap ⟨_, X1, N.app q1, rfl, K0.trans q2 (fun x hx => (hws' x hx).1), es, O, hws, hZ, ⟨k0, hS, Nat.le_trans hk q2.1⟩, C.trans C1⟩ q2 C1 q3)
theorem Wk.virtual (W : Wk p l e R s m args below meth c Z EL h0 ws vm0 T h cells slots) (hx : p.tables.exec = Jvm.exec) (ho : Z.vm.findClass own = some m.cls) {index : Nat} {C' : String} {y z : MethodName} (w1 : (Cond.methodLink own index y).before a0 Z = true) (w2 : (Cond.declares y).before a0 Z = true) (w3 : (Cond.selects C' y z).before a0 Z = true) (w4 : (Cond.instanceMethod z).before a0 Z = true) (nf : NotFace (s.setVm vm0) y) (hy : y.cls ≠ "java/lang/invoke/MethodHandle" ∧ y.cls ≠ "java/lang/invoke/VarHandle")
    {Wd mc ms : Nat} {as' : Array Value} {ws' : List Addr} {Q : Option Value → Heap → Prop} (hK : Back l R p e below (s.setVm vm0) args z 3 Wd (PreB R as' h mc ms) (PostB Z h ws' Q mc ms)) {a : Addr} (E : Exa Z h a C') (hsz : ls.size = c.maxLocals) (argsL rest : List Value) (hlen : ∀ sig, parseMethodDescriptor y.desc = some sig → argsL.length = sig.parameters.length) (hst : st = argsL.reverse ++ .ref a :: rest) (has : (Value.ref a :: argsL).toArray = as') (hW : (rest.map fun v => v.category).sum ≤ Wd) (pc' : Nat) (hd : decode c.code pc = .ok (.invokevirtual index, 3)) (hp : pc + 3 = pc') (hc : cells + mc ≤ R.cells) (hs : slots + ms ≤ R.slots) (hws' : ∀ x ∈ ws', (x ∈ ws ∨ h0.size ≤ x) ∧ Safe Z EL vm0 h x)
    (K : ∀ (v : Option Value) (T' : State) (h' : Heap), Wk p l e R s m args below meth c Z EL h0 ws vm0 T' h' (cells + mc) (slots + ms) → Keep h h' ws' → CHr Z EL vm0 h vm0 h' → Q v h' → Goes p e below Post (T'.setTop (mkF m pc' ls (v.toList ++ rest)))) : Goes p e below Post (T.setTop (mkF m pc ls st)) := by
  subst hp hst
  have ho' := W.wown ho
  obtain ⟨locs, X, N, eh, K0, es, O, hws, hZ, ⟨k0, hS, hk⟩, C⟩ := W
  obtain ⟨cq, kq, qa, qb, qc⟩ := isOf (s := s.setVm vm0) hZ eh E
  obtain ⟨v, _, ⟨T1, L1', k1, n1⟩, -, X1, ⟨L1, ⟨q1, q2, q3⟩, l1, y1, z1⟩, stp⟩ := X.virtualBack hx ho' (mvT (s := s.setVm vm0) hZ w1) (mvT (s := s.setVm vm0) hZ w2) nf (mvT (s := s.setVm vm0) hZ w3) (mvT (s := s.setVm vm0) hZ w4) hy hK qa qc (g := mkF m pc ls (argsL.reverse ++ .ref a :: rest)) rfl hsz (Steps.refl _) hlen rfl (by show 2 * 0 + _ ≤ _; omega) hd (fun _ _ => ⟨has, eh, hc, hs⟩)
  dsimp only [Pt.U, Pt.locs, Pt.cells, Pt.slots] at X1 l1 y1 z1 stp q1 q2 q3
  subst l1 y1 z1
  have C1 := CHr.keep q2 (fun x hx => (hws' x hx).2) C.1
  exact Goes.run stp (K v T1 T1.heap ⟨_, X1, N.app q1, rfl, K0.trans q2 (fun x hx => (hws' x hx).1), es, O, hws, hZ, ⟨k0, hS, Nat.le_trans hk q2.1⟩, C.trans C1⟩ q2 C1 q3)
theorem Wk.priv (W : Wk p l e R s m args below meth c Z EL h0 ws vm0 T h cells slots) (hx : p.tables.exec = Jvm.exec) (ho : Z.vm.findClass own = some m.cls) {index : Nat} {y : MethodName} {bytes : ByteArray} {ml : Nat} {ret : Option FieldType} (w1 : (Cond.methodLink own index y).before a0 Z = true) (w2 : (Cond.instanceMethod y).before a0 Z = true) (w3 : (Cond.selects y.cls y y).before a0 Z = true) (w5 : (Cond.privateMethod y).before a0 Z = true) (w4 : (Cond.code y bytes ml ret).before a0 Z = true) (hy : y.cls ≠ "java/lang/invoke/MethodHandle" ∧ y.cls ≠ "java/lang/invoke/VarHandle")
    {Wd mc ms : Nat} {as' : Array Value} {ws' : List Addr} {Q : Option Value → Heap → Prop} (hK : Back l R p e below (s.setVm vm0) args y 3 Wd (PreB R as' h mc ms) (PostB Z h ws' Q mc ms)) {a : Addr} {C' : String} (E : Exa Z h a C') (hsz : ls.size = c.maxLocals) (argsL rest : List Value) (hlen : ∀ sig, parseMethodDescriptor y.desc = some sig → argsL.length = sig.parameters.length) (hst : st = argsL.reverse ++ .ref a :: rest) (has : (Value.ref a :: argsL).toArray = as') (hW : (rest.map fun v => v.category).sum ≤ Wd) (pc' : Nat) (hd : decode c.code pc = .ok (.invokevirtual index, 3)) (hp : pc + 3 = pc') (hc : cells + mc ≤ R.cells) (hs : slots + ms ≤ R.slots) (hws' : ∀ x ∈ ws', (x ∈ ws ∨ h0.size ≤ x) ∧ Safe Z EL vm0 h x)
    (K : ∀ (v : Option Value) (T' : State) (h' : Heap), Wk p l e R s m args below meth c Z EL h0 ws vm0 T' h' (cells + mc) (slots + ms) → Keep h h' ws' → CHr Z EL vm0 h vm0 h' → Q v h' → Goes p e below Post (T'.setTop (mkF m pc' ls (v.toList ++ rest)))) : Goes p e below Post (T.setTop (mkF m pc ls st)) := by
  subst hp hst
  have ho' := W.wown ho
  obtain ⟨locs, X, N, eh, K0, es, O, hws, hZ, ⟨k0, hS, hk⟩, C⟩ := W
  obtain ⟨cq, hcq, hcv⟩ := E.cell
  obtain ⟨v, _, ⟨T1, L1', k1, n1⟩, -, X1, ⟨L1, ⟨q1, q2, q3⟩, l1, y1, z1⟩, stp⟩ := X.privateBack hx ho' (mvT (s := s.setVm vm0) hZ w1) (mvT (s := s.setVm vm0) hZ w2) (mvT (s := s.setVm vm0) hZ w3) (Cond.privateMethod_at (mvP (s := s.setVm vm0) hZ w5 (args := #[]))) (mvT (s := s.setVm vm0) hZ w4) hy hK (g := mkF m pc ls (argsL.reverse ++ .ref a :: rest)) rfl hsz (Steps.refl _) (by rw [eh]; exact hcq) hcv hlen rfl (by show 2 * 0 + _ ≤ _; omega) hd (fun _ _ => ⟨has, eh, hc, hs⟩)
  dsimp only [Pt.U, Pt.locs, Pt.cells, Pt.slots] at X1 l1 y1 z1 stp q1 q2 q3
  subst l1 y1 z1
  have C1 := CHr.keep q2 (fun x hx => (hws' x hx).2) C.1
  exact Goes.run stp (K v T1 T1.heap ⟨_, X1, N.app q1, rfl, K0.trans q2 (fun x hx => (hws' x hx).1), es, O, hws, hZ, ⟨k0, hS, Nat.le_trans hk q2.1⟩, C.trans C1⟩ q2 C1 q3)
theorem Wk.iface (W : Wk p l e R s m args below meth c Z EL h0 ws vm0 T h cells slots) (hx : p.tables.exec = Jvm.exec) (ho : Z.vm.findClass own = some m.cls) {index count : Nat} {C' : String} {y z : MethodName} (w1 : (Cond.methodLink own index y).before a0 Z = true) (w2 : (Cond.declares y).before a0 Z = true) (w3 : (Cond.interfaceMethod y.cls y.cls y.name y.desc).before a0 Z = true) (w4 : (Cond.selects C' y z).before a0 Z = true) (w5 : (Cond.instanceMethod z).before a0 Z = true) (w6 : (Cond.publicMethod z).before a0 Z = true) (w7 : (Cond.unhidden C' y.name y.desc).before a0 Z = true) (w8 : (Cond.castable C' y.cls).before a0 Z = true) (hI : ((Cond.interfaceMethod y.cls y.cls y.name y.desc).onTables && (Cond.interfaceMethod y.cls y.cls y.name y.desc).keepsFace) = true) (hy : y.cls ≠ "java/lang/invoke/MethodHandle" ∧ y.cls ≠ "java/lang/invoke/VarHandle")
    {Wd mc ms : Nat} {as' : Array Value} {ws' : List Addr} {Q : Option Value → Heap → Prop} (hK : Back l R p e below (s.setVm vm0) args z 5 Wd (PreB R as' h mc ms) (PostB Z h ws' Q mc ms)) {a : Addr} (E : Exa Z h a C') (hsz : ls.size = c.maxLocals) (argsL rest : List Value) (hlen : ∀ sig, parseMethodDescriptor y.desc = some sig → argsL.length = sig.parameters.length) (hst : st = argsL.reverse ++ .ref a :: rest) (has : (Value.ref a :: argsL).toArray = as') (hW : (rest.map fun v => v.category).sum ≤ Wd) (pc' : Nat) (hd : decode c.code pc = .ok (.invokeinterface index count, 5)) (hp : pc + 5 = pc') (hc : cells + mc ≤ R.cells) (hs : slots + ms ≤ R.slots) (hws' : ∀ x ∈ ws', (x ∈ ws ∨ h0.size ≤ x) ∧ Safe Z EL vm0 h x)
    (K : ∀ (v : Option Value) (T' : State) (h' : Heap), Wk p l e R s m args below meth c Z EL h0 ws vm0 T' h' (cells + mc) (slots + ms) → Keep h h' ws' → CHr Z EL vm0 h vm0 h' → Q v h' → Goes p e below Post (T'.setTop (mkF m pc' ls (v.toList ++ rest)))) : Goes p e below Post (T.setTop (mkF m pc ls st)) := by
  subst hp hst
  have ho' := W.wown ho
  obtain ⟨locs, X, N, eh, K0, es, O, hws, hZ, ⟨k0, hS, hk⟩, C⟩ := W
  obtain ⟨cq, kq, qa, qb, qc⟩ := isOf (s := s.setVm vm0) hZ eh E
  obtain ⟨v, _, ⟨T1, L1', k1, n1⟩, -, X1, ⟨L1, ⟨q1, q2, q3⟩, l1, y1, z1⟩, stp⟩ := X.interfaceBack hx ho' (mvT (s := s.setVm vm0) hZ w1) (mvT (s := s.setVm vm0) hZ w2) (mvT (s := s.setVm vm0) hZ w3 hI) (mvT (s := s.setVm vm0) hZ w4) (mvT (s := s.setVm vm0) hZ w5) (mvT (s := s.setVm vm0) hZ w6) (mvT (s := s.setVm vm0) hZ w7) (mvT (s := s.setVm vm0) hZ w8) hy hK qa qb qc (g := mkF m pc ls (argsL.reverse ++ .ref a :: rest)) rfl hsz (Steps.refl _) hlen rfl (by show 2 * 0 + _ ≤ _; omega) hd (fun _ _ => ⟨has, eh, hc, hs⟩)
  dsimp only [Pt.U, Pt.locs, Pt.cells, Pt.slots] at X1 l1 y1 z1 stp q1 q2 q3
  subst l1 y1 z1
  have C1 := CHr.keep q2 (fun x hx => (hws' x hx).2) C.1
  exact Goes.run stp (K v T1 T1.heap ⟨_, X1, N.app q1, rfl, K0.trans q2 (fun x hx => (hws' x hx).1), es, O, hws, hZ, ⟨k0, hS, Nat.le_trans hk q2.1⟩, C.trans C1⟩ q2 C1 q3)
theorem Wk.callSW (W : Wk p l e R s m args below meth c Z EL h0 ws vm0 T h cells slots) (hx : p.tables.exec = Jvm.exec) (ho : Z.vm.findClass own = some m.cls) {index : Nat} {y : MethodName} {bytes : ByteArray} {ml : Nat} {ret : Option FieldType} (w1 : (Cond.methodLink own index y).before a0 Z = true) (w2 : (Cond.static y).before a0 Z = true) (w3 : (Cond.initialized y.cls).before a0 Z = true) (w4 : (Cond.code y bytes ml ret).before a0 Z = true) (hy : y.cls ≠ "java/lang/invoke/MethodHandle" ∧ y.cls ≠ "java/lang/invoke/VarHandle")
    {Wd mc ms : Nat} {as' : Array Value} {ws' : List Addr} {Q : Option Value → Heap → Prop} (hK : BackS l R p e below (s.setVm vm0) args y 3 Wd (PreB R as' h mc ms) (PostBW Z EL vm0 h ws' Q mc ms)) (hsz : ls.size = c.maxLocals) (argsL rest : List Value) (hlen : ∀ sig, parseMethodDescriptor y.desc = some sig → argsL.length = sig.parameters.length) (hst : st = argsL.reverse ++ rest) (has : argsL.toArray = as') (hW : (rest.map fun v => v.category).sum ≤ Wd) (pc' : Nat) (hd : decode c.code pc = .ok (.invokestatic index, 3)) (hp : pc + 3 = pc') (hc : cells + mc ≤ R.cells) (hs : slots + ms ≤ R.slots) (hws' : ∀ x ∈ ws', (x ∈ ws ∨ h0.size ≤ x) ∧ Safe Z EL vm0 h x)
    (K : ∀ (v : Option Value) (vm1 : Vm) (T' : State) (h' : Heap), Wk p l e R s m args below meth c Z EL h0 ws vm1 T' h' (cells + mc) (slots + ms) → Keep h h' ws' → CHr Z EL vm0 h vm1 h' → Q v h' → Goes p e below Post (T'.setTop (mkF m pc' ls (v.toList ++ rest)))) : Goes p e below Post (T.setTop (mkF m pc ls st)) := by
  subst hp hst
  have ho' := W.wown ho
  obtain ⟨locs, X, N, eh, K0, es, O, hws, hZ, ⟨k0, hS, hk⟩, C⟩ := W
  obtain ⟨v, _, ⟨T1, L1', k1, n1⟩, -, X1, hS1, hg1, ⟨L1, ⟨q1, q2, q3⟩, l1, y1, z1, C1⟩, stp⟩ := callSS X hx ho' (mvT (s := s.setVm vm0) hZ w1) (mvT (s := s.setVm vm0) hZ w2) (mvT (s := s.setVm vm0) hZ w3) (mvT (s := s.setVm vm0) hZ w4) hy hK (g := mkF m pc ls (argsL.reverse ++ rest)) rfl hsz hlen rfl (by show 2 * 0 + _ ≤ _; omega) hd (fun _ _ => ⟨has, eh, hc, hs⟩)
  dsimp only [Pt.U, Pt.locs, Pt.cells, Pt.slots] at X1 l1 y1 z1 stp q1 q2 q3 hS1 hg1 C1
  subst l1 y1 z1
  exact Goes.run stp (K v T1.vm T1 T1.heap ⟨_, X1, N.app q1, rfl, K0.trans q2 (fun x hx => (hws' x hx).1), es, O, hws, State.Warmed39.trans (t := s.setVm vm0) hZ hS1.1, ⟨_, hS.trans hS1 (Nat.le_trans hk (by rw [← eh]; exact hg1)), Nat.le_refl _⟩, C.trans C1⟩ q2 C1 q3)
theorem Wk.specialW (W : Wk p l e R s m args below meth c Z EL h0 ws vm0 T h cells slots) (hx : p.tables.exec = Jvm.exec) (ho : Z.vm.findClass own = some m.cls) {index : Nat} {y : MethodName} (hy1 : y.name = "<init>") {bytes : ByteArray} {ml : Nat} (w1 : (Cond.methodLink own index y).before a0 Z = true) (w2 : (Cond.instanceMethod y).before a0 Z = true) (w4 : (Cond.code y bytes ml none).before a0 Z = true) (hy : y.cls ≠ "java/lang/invoke/MethodHandle" ∧ y.cls ≠ "java/lang/invoke/VarHandle")
    {Wd mc ms : Nat} {as' : Array Value} {ws' : List Addr} {Q : Option Value → Heap → Prop} (hK : BackS l R p e below (s.setVm vm0) args y 3 Wd (PreB R as' h mc ms) (PostBW Z EL vm0 h ws' Q mc ms)) (a : Addr) (hsz : ls.size = c.maxLocals) (argsL rest : List Value) (hlen : ∀ sig, parseMethodDescriptor y.desc = some sig → argsL.length = sig.parameters.length) (hst : st = argsL.reverse ++ .ref a :: rest) (has : (Value.ref a :: argsL).toArray = as') (hW : (rest.map fun v => v.category).sum ≤ Wd) (pc' : Nat) (hd : decode c.code pc = .ok (.invokespecial index, 3)) (hp : pc + 3 = pc') (hc : cells + mc ≤ R.cells) (hs : slots + ms ≤ R.slots) (hws' : ∀ x ∈ ws', (x ∈ ws ∨ h0.size ≤ x) ∧ Safe Z EL vm0 h x)
    (K : ∀ (v : Option Value) (vm1 : Vm) (T' : State) (h' : Heap), Wk p l e R s m args below meth c Z EL h0 ws vm1 T' h' (cells + mc) (slots + ms) → Keep h h' ws' → CHr Z EL vm0 h vm1 h' → Q v h' → Goes p e below Post (T'.setTop (mkF m pc' ls (v.toList ++ rest)))) : Goes p e below Post (T.setTop (mkF m pc ls st)) := by
  subst hp hst
  have ho' := W.wown ho
  obtain ⟨locs, X, N, eh, K0, es, O, hws, hZ, ⟨k0, hS, hk⟩, C⟩ := W
  obtain ⟨v, _, ⟨T1, L1', k1, n1⟩, -, X1, hS1, hg1, ⟨L1, ⟨q1, q2, q3⟩, l1, y1, z1, C1⟩, stp⟩ := X.specialBackS hx hy1 ho' (mvT (s := s.setVm vm0) hZ w1) (mvT (s := s.setVm vm0) hZ w2) (mvT (s := s.setVm vm0) hZ w4) hy hK (g := mkF m pc ls (argsL.reverse ++ .ref a :: rest)) rfl hsz (Steps.refl _) hlen rfl (by show 2 * 0 + _ ≤ _; omega) hd (fun _ _ => ⟨has, eh, hc, hs⟩)
  dsimp only [Pt.U, Pt.locs, Pt.cells, Pt.slots] at X1 l1 y1 z1 stp q1 q2 q3 hS1 hg1 C1
  subst l1 y1 z1
  exact Goes.run stp (K v T1.vm T1 T1.heap ⟨_, X1, N.app q1, rfl, K0.trans q2 (fun x hx => (hws' x hx).1), es, O, hws, State.Warmed39.trans (t := s.setVm vm0) hZ hS1.1, ⟨_, hS.trans hS1 (Nat.le_trans hk (by rw [← eh]; exact hg1)), Nat.le_refl _⟩, C.trans C1⟩ q2 C1 q3)
theorem Wk.virtualW (W : Wk p l e R s m args below meth c Z EL h0 ws vm0 T h cells slots) (hx : p.tables.exec = Jvm.exec) (ho : Z.vm.findClass own = some m.cls) {index : Nat} {C' : String} {y z : MethodName} (w1 : (Cond.methodLink own index y).before a0 Z = true) (w2 : (Cond.declares y).before a0 Z = true) (w3 : (Cond.selects C' y z).before a0 Z = true) (w4 : (Cond.instanceMethod z).before a0 Z = true) (nf : NotFace (s.setVm vm0) y) (hy : y.cls ≠ "java/lang/invoke/MethodHandle" ∧ y.cls ≠ "java/lang/invoke/VarHandle")
    {Wd mc ms : Nat} {as' : Array Value} {ws' : List Addr} {Q : Option Value → Heap → Prop} (hK : BackS l R p e below (s.setVm vm0) args z 3 Wd (PreB R as' h mc ms) (PostBW Z EL vm0 h ws' Q mc ms)) {a : Addr} (E : Exa Z h a C') (hsz : ls.size = c.maxLocals) (argsL rest : List Value) (hlen : ∀ sig, parseMethodDescriptor y.desc = some sig → argsL.length = sig.parameters.length) (hst : st = argsL.reverse ++ .ref a :: rest) (has : (Value.ref a :: argsL).toArray = as') (hW : (rest.map fun v => v.category).sum ≤ Wd) (pc' : Nat) (hd : decode c.code pc = .ok (.invokevirtual index, 3)) (hp : pc + 3 = pc') (hc : cells + mc ≤ R.cells) (hs : slots + ms ≤ R.slots) (hws' : ∀ x ∈ ws', (x ∈ ws ∨ h0.size ≤ x) ∧ Safe Z EL vm0 h x)
    (K : ∀ (v : Option Value) (vm1 : Vm) (T' : State) (h' : Heap), Wk p l e R s m args below meth c Z EL h0 ws vm1 T' h' (cells + mc) (slots + ms) → Keep h h' ws' → CHr Z EL vm0 h vm1 h' → Q v h' → Goes p e below Post (T'.setTop (mkF m pc' ls (v.toList ++ rest)))) : Goes p e below Post (T.setTop (mkF m pc ls st)) := by
  subst hp hst
  have ho' := W.wown ho
  obtain ⟨locs, X, N, eh, K0, es, O, hws, hZ, ⟨k0, hS, hk⟩, C⟩ := W
  obtain ⟨cq, kq, qa, qb, qc⟩ := isOf (s := s.setVm vm0) hZ eh E
  obtain ⟨v, _, ⟨T1, L1', k1, n1⟩, -, X1, hS1, hg1, ⟨L1, ⟨q1, q2, q3⟩, l1, y1, z1, C1⟩, stp⟩ := X.virtualBackS hx ho' (mvT (s := s.setVm vm0) hZ w1) (mvT (s := s.setVm vm0) hZ w2) nf (mvT (s := s.setVm vm0) hZ w3) (mvT (s := s.setVm vm0) hZ w4) hy hK qa qc (g := mkF m pc ls (argsL.reverse ++ .ref a :: rest)) rfl hsz (Steps.refl _) hlen rfl (by show 2 * 0 + _ ≤ _; omega) hd (fun _ _ => ⟨has, eh, hc, hs⟩)
  dsimp only [Pt.U, Pt.locs, Pt.cells, Pt.slots] at X1 l1 y1 z1 stp q1 q2 q3 hS1 hg1 C1
  subst l1 y1 z1
  exact Goes.run stp (K v T1.vm T1 T1.heap ⟨_, X1, N.app q1, rfl, K0.trans q2 (fun x hx => (hws' x hx).1), es, O, hws, State.Warmed39.trans (t := s.setVm vm0) hZ hS1.1, ⟨_, hS.trans hS1 (Nat.le_trans hk (by rw [← eh]; exact hg1)), Nat.le_refl _⟩, C.trans C1⟩ q2 C1 q3)
theorem Wk.privW (W : Wk p l e R s m args below meth c Z EL h0 ws vm0 T h cells slots) (hx : p.tables.exec = Jvm.exec) (ho : Z.vm.findClass own = some m.cls) {index : Nat} {y : MethodName} {bytes : ByteArray} {ml : Nat} {ret : Option FieldType} (w1 : (Cond.methodLink own index y).before a0 Z = true) (w2 : (Cond.instanceMethod y).before a0 Z = true) (w3 : (Cond.selects y.cls y y).before a0 Z = true) (w5 : (Cond.privateMethod y).before a0 Z = true) (w4 : (Cond.code y bytes ml ret).before a0 Z = true) (hy : y.cls ≠ "java/lang/invoke/MethodHandle" ∧ y.cls ≠ "java/lang/invoke/VarHandle")
    {Wd mc ms : Nat} {as' : Array Value} {ws' : List Addr} {Q : Option Value → Heap → Prop} (hK : BackS l R p e below (s.setVm vm0) args y 3 Wd (PreB R as' h mc ms) (PostBW Z EL vm0 h ws' Q mc ms)) {a : Addr} {C' : String} (E : Exa Z h a C') (hsz : ls.size = c.maxLocals) (argsL rest : List Value) (hlen : ∀ sig, parseMethodDescriptor y.desc = some sig → argsL.length = sig.parameters.length) (hst : st = argsL.reverse ++ .ref a :: rest) (has : (Value.ref a :: argsL).toArray = as') (hW : (rest.map fun v => v.category).sum ≤ Wd) (pc' : Nat) (hd : decode c.code pc = .ok (.invokevirtual index, 3)) (hp : pc + 3 = pc') (hc : cells + mc ≤ R.cells) (hs : slots + ms ≤ R.slots) (hws' : ∀ x ∈ ws', (x ∈ ws ∨ h0.size ≤ x) ∧ Safe Z EL vm0 h x)
    (K : ∀ (v : Option Value) (vm1 : Vm) (T' : State) (h' : Heap), Wk p l e R s m args below meth c Z EL h0 ws vm1 T' h' (cells + mc) (slots + ms) → Keep h h' ws' → CHr Z EL vm0 h vm1 h' → Q v h' → Goes p e below Post (T'.setTop (mkF m pc' ls (v.toList ++ rest)))) : Goes p e below Post (T.setTop (mkF m pc ls st)) := by
  subst hp hst
  have ho' := W.wown ho
  obtain ⟨locs, X, N, eh, K0, es, O, hws, hZ, ⟨k0, hS, hk⟩, C⟩ := W
  obtain ⟨cq, hcq, hcv⟩ := E.cell
  obtain ⟨v, _, ⟨T1, L1', k1, n1⟩, -, X1, hS1, hg1, ⟨L1, ⟨q1, q2, q3⟩, l1, y1, z1, C1⟩, stp⟩ := X.privateBackS hx ho' (mvT (s := s.setVm vm0) hZ w1) (mvT (s := s.setVm vm0) hZ w2) (mvT (s := s.setVm vm0) hZ w3) (Cond.privateMethod_at (mvP (s := s.setVm vm0) hZ w5 (args := #[]))) (mvT (s := s.setVm vm0) hZ w4) hy hK (g := mkF m pc ls (argsL.reverse ++ .ref a :: rest)) rfl hsz (Steps.refl _) (by rw [eh]; exact hcq) hcv hlen rfl (by show 2 * 0 + _ ≤ _; omega) hd (fun _ _ => ⟨has, eh, hc, hs⟩)
  dsimp only [Pt.U, Pt.locs, Pt.cells, Pt.slots] at X1 l1 y1 z1 stp q1 q2 q3 hS1 hg1 C1
  subst l1 y1 z1
  exact Goes.run stp (K v T1.vm T1 T1.heap ⟨_, X1, N.app q1, rfl, K0.trans q2 (fun x hx => (hws' x hx).1), es, O, hws, State.Warmed39.trans (t := s.setVm vm0) hZ hS1.1, ⟨_, hS.trans hS1 (Nat.le_trans hk (by rw [← eh]; exact hg1)), Nat.le_refl _⟩, C.trans C1⟩ q2 C1 q3)
theorem Wk.ifaceW (W : Wk p l e R s m args below meth c Z EL h0 ws vm0 T h cells slots) (hx : p.tables.exec = Jvm.exec) (ho : Z.vm.findClass own = some m.cls) {index count : Nat} {C' : String} {y z : MethodName} (w1 : (Cond.methodLink own index y).before a0 Z = true) (w2 : (Cond.declares y).before a0 Z = true) (w3 : (Cond.interfaceMethod y.cls y.cls y.name y.desc).before a0 Z = true) (w4 : (Cond.selects C' y z).before a0 Z = true) (w5 : (Cond.instanceMethod z).before a0 Z = true) (w6 : (Cond.publicMethod z).before a0 Z = true) (w7 : (Cond.unhidden C' y.name y.desc).before a0 Z = true) (w8 : (Cond.castable C' y.cls).before a0 Z = true) (hI : ((Cond.interfaceMethod y.cls y.cls y.name y.desc).onTables && (Cond.interfaceMethod y.cls y.cls y.name y.desc).keepsFace) = true) (hy : y.cls ≠ "java/lang/invoke/MethodHandle" ∧ y.cls ≠ "java/lang/invoke/VarHandle")
    {Wd mc ms : Nat} {as' : Array Value} {ws' : List Addr} {Q : Option Value → Heap → Prop} (hK : BackS l R p e below (s.setVm vm0) args z 5 Wd (PreB R as' h mc ms) (PostBW Z EL vm0 h ws' Q mc ms)) {a : Addr} (E : Exa Z h a C') (hsz : ls.size = c.maxLocals) (argsL rest : List Value) (hlen : ∀ sig, parseMethodDescriptor y.desc = some sig → argsL.length = sig.parameters.length) (hst : st = argsL.reverse ++ .ref a :: rest) (has : (Value.ref a :: argsL).toArray = as') (hW : (rest.map fun v => v.category).sum ≤ Wd) (pc' : Nat) (hd : decode c.code pc = .ok (.invokeinterface index count, 5)) (hp : pc + 5 = pc') (hc : cells + mc ≤ R.cells) (hs : slots + ms ≤ R.slots) (hws' : ∀ x ∈ ws', (x ∈ ws ∨ h0.size ≤ x) ∧ Safe Z EL vm0 h x)
    (K : ∀ (v : Option Value) (vm1 : Vm) (T' : State) (h' : Heap), Wk p l e R s m args below meth c Z EL h0 ws vm1 T' h' (cells + mc) (slots + ms) → Keep h h' ws' → CHr Z EL vm0 h vm1 h' → Q v h' → Goes p e below Post (T'.setTop (mkF m pc' ls (v.toList ++ rest)))) : Goes p e below Post (T.setTop (mkF m pc ls st)) := by
  subst hp hst
  have ho' := W.wown ho
  obtain ⟨locs, X, N, eh, K0, es, O, hws, hZ, ⟨k0, hS, hk⟩, C⟩ := W
  obtain ⟨cq, kq, qa, qb, qc⟩ := isOf (s := s.setVm vm0) hZ eh E
  obtain ⟨v, _, ⟨T1, L1', k1, n1⟩, -, X1, hS1, hg1, ⟨L1, ⟨q1, q2, q3⟩, l1, y1, z1, C1⟩, stp⟩ := X.interfaceBackS hx ho' (mvT (s := s.setVm vm0) hZ w1) (mvT (s := s.setVm vm0) hZ w2) (mvT (s := s.setVm vm0) hZ w3 hI) (mvT (s := s.setVm vm0) hZ w4) (mvT (s := s.setVm vm0) hZ w5) (mvT (s := s.setVm vm0) hZ w6) (mvT (s := s.setVm vm0) hZ w7) (mvT (s := s.setVm vm0) hZ w8) hy hK qa qb qc (g := mkF m pc ls (argsL.reverse ++ .ref a :: rest)) rfl hsz (Steps.refl _) hlen rfl (by show 2 * 0 + _ ≤ _; omega) hd (fun _ _ => ⟨has, eh, hc, hs⟩)
  dsimp only [Pt.U, Pt.locs, Pt.cells, Pt.slots] at X1 l1 y1 z1 stp q1 q2 q3 hS1 hg1 C1
  subst l1 y1 z1
  exact Goes.run stp (K v T1.vm T1 T1.heap ⟨_, X1, N.app q1, rfl, K0.trans q2 (fun x hx => (hws' x hx).1), es, O, hws, State.Warmed39.trans (t := s.setVm vm0) hZ hS1.1, ⟨_, hS.trans hS1 (Nat.le_trans hk (by rw [← eh]; exact hg1)), Nat.le_refl _⟩, C.trans C1⟩ q2 C1 q3)
theorem Wk.nf (W : Wk p l e R s m args below meth c Z EL h0 ws vm0 T h cells slots) {C' : String} {y : MethodName} (w3 : (Cond.selects C' y y).before a0 Z = true) : NotFace (s.setVm vm0) y := notFace_of_selects (args := #[]) (mvT (s := s.setVm vm0) W.warm w3)
end Calls
section Ends
variable {p : Program} {l : Launch} {e : Env} {R : Room} {s : State} {m : MethodId} {args : Array Value} {below : List Frame} {meth : Method} {c : Code} {Z : State} {EL : List (String × Nat)} {h0 : Heap} {ws : List Addr} {vm0 : Vm} {T : State} {h : Heap} {cells slots : Nat} {a0 : Array Value} {pc : Nat} {ls : Array Slot} {rest : List Value} {own : String} {mc ms : Nat} {Q : Option Value → Heap → Prop}
theorem CN.of_walk {wl : List Cond} {y : MethodName} {bytes : ByteArray} {ml : Nat} {ret : Option FieldType} {rm : Room} {as' : Array Value} (hpl : plainFor y = true) (O : Ext Z.heap h0) (hws : ∀ x ∈ ws, Z.heap.size ≤ x)
    (body : ∀ (p : Program) (e : Env) (s : State) (m : MethodId) (below : List Frame) (meth : Method) (c : Code) (T : State), Wk p l e rm s m as' below meth c Z [] h0 ws s.vm T h0 0 0 → p.tables.exec = Jvm.exec → c.code = bytes → c.maxLocals = ml → Z.vm.findClass y.cls = some m.cls → meth.name = y.name → meth.sig.returnType = ret → meth.locks = false →
      Goes p e below (PostN s Z h0 ws Q rm.cells rm.slots) (T.setTop (entryFrame m as' ml))) : CN wl l Z y bytes ml ret rm as' h0 ws Q := by
  refine MetFree.of_bodySF hpl hisR ?_
  intro p e s m args below meth c s₁ Bd hml hP hK
  obtain ⟨rfl, hZ, hh⟩ := hP
  have X0 : Stand p l e rm s m args below meth c s₁ [] 0 0 := Stand.of_body Bd
  have e0 : s₁.heap = h0 := by rw [← hh, Bd.state]; rfl
  have hfc := findClass_of_methodNamed Bd.named
  obtain ⟨s₂, o, h1, h2, h3, h4⟩ := body p e s m below meth c s₁ ⟨[], X0, Fr.nil _, e0, Keep.refl _ _, hh, O, hws, hZ, ⟨_, (State.WarmedH.refl s).since 0, Nat.zero_le _⟩, CHr.refl (fun p hp => by cases hp)⟩ Bd.exec Bd.bytes hml (by rw [← hZ.alike.findClass]; exact hfc) (name_of_methodNamed Bd.named Bd.method).1 Bd.returns Bd.notSynchronized
  exact ⟨s₂, o, h1, h2, h3, h4⟩
theorem CW.of_walk {wl : List Cond} {y : MethodName} {bytes : ByteArray} {ml : Nat} {ret : Option FieldType} {rm : Room} {as' : Array Value} (hpl : plainFor y = true) (O : Ext Z.heap h0) (hws : ∀ x ∈ ws, Z.heap.size ≤ x)
    (body : ∀ (p : Program) (e : Env) (s : State) (m : MethodId) (below : List Frame) (meth : Method) (c : Code) (T : State), Wk p l e rm s m as' below meth c Z EL h0 ws s.vm T h0 0 0 → (∀ x ∈ ws, Safe Z EL s.vm h0 x) → p.tables.exec = Jvm.exec → c.code = bytes → c.maxLocals = ml → Z.vm.findClass y.cls = some m.cls → meth.name = y.name → meth.sig.returnType = ret → meth.locks = false →
      Goes p e below (PostW s Z EL h0 ws Q rm.cells rm.slots) (T.setTop (entryFrame m as' ml))) : CW wl l Z EL y bytes ml ret rm as' h0 ws Q := by
  refine MetFree.of_bodySF hpl hisR ?_
  intro p e s m args below meth c s₁ Bd hml hP hK
  obtain ⟨rfl, hZ, hh, hC, hsf⟩ := hP
  have X0 : Stand p l e rm s m args below meth c s₁ [] 0 0 := Stand.of_body Bd
  have e0 : s₁.heap = h0 := by rw [← hh, Bd.state]; rfl
  have hfc := findClass_of_methodNamed Bd.named
  obtain ⟨s₂, o, h1, h2, h3, h4⟩ := body p e s m below meth c s₁ ⟨[], X0, Fr.nil _, e0, Keep.refl _ _, hh, O, hws, hZ, ⟨_, (State.WarmedH.refl s).since 0, Nat.zero_le _⟩, CHr.refl hC⟩ hsf Bd.exec Bd.bytes hml (by rw [← hZ.alike.findClass]; exact hfc) (name_of_methodNamed Bd.named Bd.method).1 Bd.returns Bd.notSynchronized
  exact ⟨s₂, o, h1, h2, h3, h4⟩
theorem Wk.retI (W : Wk p l e R s m args below meth c Z EL h0 ws s.vm T h cells slots) (hx : p.tables.exec = Jvm.exec) {z : Int32} (hret : meth.sig.returnType = some .int) (hlk : meth.locks = false) (hd : decode c.code pc = .ok (.ireturn, 1)) (hc : cells ≤ mc) (hs : slots ≤ ms) (q : Q (some (.int z)) h) : Goes p e below (PostN s Z h0 ws Q mc ms) (T.setTop (mkF m pc ls ((.int z) :: rest))) := by
  obtain ⟨locs, X, N, eh, K0, -⟩ := W
  have X : Stand p l e R s m args below meth c T locs cells slots := X
  obtain ⟨fs, hr, hrun, hended, hW, hsame⟩ := X.leave (v := some (.int z)) (fun q => by rw [hret] at q; cases q) hlk
  exact ⟨_, _, retOut X hx hret rfl (Or.inl ⟨rfl, Or.inl rfl, _, rfl⟩) hd hr, hrun, hended, _, _, rfl, ⟨N, by show Keep h0 T.heap ws; rw [eh]; exact K0, by show Q _ T.heap; rw [eh]; exact q⟩, ⟨_, rfl⟩, hW, hsame.mono hc hs⟩
theorem Wk.retIW (W : Wk p l e R s m args below meth c Z EL h0 ws vm0 T h cells slots) (hx : p.tables.exec = Jvm.exec) (hEL : EW Z a0 EL) {z : Int32} (hret : meth.sig.returnType = some .int) (hlk : meth.locks = false) (hd : decode c.code pc = .ok (.ireturn, 1)) (hc : cells ≤ mc) (hs : slots ≤ ms) (q : Q (some (.int z)) h) : Goes p e below (PostW s Z EL h0 ws Q mc ms) (T.setTop (mkF m pc ls ((.int z) :: rest))) := by
  have W0 := W.mono hc hs
  obtain ⟨locs, X, N, eh, K0, es, -, -, hZ, ⟨k0, hS, hk⟩, C⟩ := W0
  obtain ⟨fs, hr, hrun, hended, hRE⟩ := X.leaveW hS (by rw [eh]; exact hk) (v := some (.int z)) (fun q => by rw [hret] at q; cases q) hlk
  exact ⟨_, _, retOut X hx hret rfl (Or.inl ⟨rfl, Or.inl rfl, _, rfl⟩) hd hr, hrun, hended, _, _, rfl, ⟨N, by show Keep h0 T.heap ws; rw [eh]; exact K0, by show Q _ T.heap; rw [eh]; exact q⟩, by show CHr Z EL s.vm h0 T.vm T.heap; rw [eh]; exact C.trans (CHv.at X hZ hEL C.1), hRE⟩
theorem Wk.retJ (W : Wk p l e R s m args below meth c Z EL h0 ws s.vm T h cells slots) (hx : p.tables.exec = Jvm.exec) {z : Int64} (hret : meth.sig.returnType = some .long) (hlk : meth.locks = false) (hd : decode c.code pc = .ok (.lreturn, 1)) (hc : cells ≤ mc) (hs : slots ≤ ms) (q : Q (some (.long z)) h) : Goes p e below (PostN s Z h0 ws Q mc ms) (T.setTop (mkF m pc ls ((.long z) :: rest))) := by
  obtain ⟨locs, X, N, eh, K0, -⟩ := W
  have X : Stand p l e R s m args below meth c T locs cells slots := X
  obtain ⟨fs, hr, hrun, hended, hW, hsame⟩ := X.leave (v := some (.long z)) (fun q => by rw [hret] at q; cases q) hlk
  exact ⟨_, _, retOut X hx hret rfl (Or.inr (Or.inl ⟨rfl, rfl, _, rfl⟩)) hd hr, hrun, hended, _, _, rfl, ⟨N, by show Keep h0 T.heap ws; rw [eh]; exact K0, by show Q _ T.heap; rw [eh]; exact q⟩, ⟨_, rfl⟩, hW, hsame.mono hc hs⟩
theorem Wk.retJW (W : Wk p l e R s m args below meth c Z EL h0 ws vm0 T h cells slots) (hx : p.tables.exec = Jvm.exec) (hEL : EW Z a0 EL) {z : Int64} (hret : meth.sig.returnType = some .long) (hlk : meth.locks = false) (hd : decode c.code pc = .ok (.lreturn, 1)) (hc : cells ≤ mc) (hs : slots ≤ ms) (q : Q (some (.long z)) h) : Goes p e below (PostW s Z EL h0 ws Q mc ms) (T.setTop (mkF m pc ls ((.long z) :: rest))) := by
  have W0 := W.mono hc hs
  obtain ⟨locs, X, N, eh, K0, es, -, -, hZ, ⟨k0, hS, hk⟩, C⟩ := W0
  obtain ⟨fs, hr, hrun, hended, hRE⟩ := X.leaveW hS (by rw [eh]; exact hk) (v := some (.long z)) (fun q => by rw [hret] at q; cases q) hlk
  exact ⟨_, _, retOut X hx hret rfl (Or.inr (Or.inl ⟨rfl, rfl, _, rfl⟩)) hd hr, hrun, hended, _, _, rfl, ⟨N, by show Keep h0 T.heap ws; rw [eh]; exact K0, by show Q _ T.heap; rw [eh]; exact q⟩, by show CHr Z EL s.vm h0 T.vm T.heap; rw [eh]; exact C.trans (CHv.at X hZ hEL C.1), hRE⟩
theorem Wk.retA (W : Wk p l e R s m args below meth c Z EL h0 ws s.vm T h cells slots) (hx : p.tables.exec = Jvm.exec) {t : FieldType} {z : Value} (ht : t.isReference = true) (hz : z.isRef = true) (hret : meth.sig.returnType = some t) (hlk : meth.locks = false) (hd : decode c.code pc = .ok (.areturn, 1)) (hc : cells ≤ mc) (hs : slots ≤ ms) (q : Q (some z) h) : Goes p e below (PostN s Z h0 ws Q mc ms) (T.setTop (mkF m pc ls (z :: rest))) := by
  obtain ⟨locs, X, N, eh, K0, -⟩ := W
  have X : Stand p l e R s m args below meth c T locs cells slots := X
  obtain ⟨fs, hr, hrun, hended, hW, hsame⟩ := X.leave (v := some z) (fun q => by rw [hret] at q; cases q) hlk
  exact ⟨_, _, retOut X hx hret (by cases t <;> simp [FieldType.isReference] at ht <;> cases z <;> simp [Value.isRef] at hz <;> rfl) (Or.inr (Or.inr (Or.inr (Or.inr ⟨rfl, ht, hz⟩)))) hd hr, hrun, hended, _, _, rfl, ⟨N, by show Keep h0 T.heap ws; rw [eh]; exact K0, by show Q _ T.heap; rw [eh]; exact q⟩, ⟨_, rfl⟩, hW, hsame.mono hc hs⟩
theorem Wk.retAW (W : Wk p l e R s m args below meth c Z EL h0 ws vm0 T h cells slots) (hx : p.tables.exec = Jvm.exec) (hEL : EW Z a0 EL) {t : FieldType} {z : Value} (ht : t.isReference = true) (hz : z.isRef = true) (hret : meth.sig.returnType = some t) (hlk : meth.locks = false) (hd : decode c.code pc = .ok (.areturn, 1)) (hc : cells ≤ mc) (hs : slots ≤ ms) (q : Q (some z) h) : Goes p e below (PostW s Z EL h0 ws Q mc ms) (T.setTop (mkF m pc ls (z :: rest))) := by
  have W0 := W.mono hc hs
  obtain ⟨locs, X, N, eh, K0, es, -, -, hZ, ⟨k0, hS, hk⟩, C⟩ := W0
  obtain ⟨fs, hr, hrun, hended, hRE⟩ := X.leaveW hS (by rw [eh]; exact hk) (v := some z) (fun q => by rw [hret] at q; cases q) hlk
  exact ⟨_, _, retOut X hx hret (by cases t <;> simp [FieldType.isReference] at ht <;> cases z <;> simp [Value.isRef] at hz <;> rfl) (Or.inr (Or.inr (Or.inr (Or.inr ⟨rfl, ht, hz⟩)))) hd hr, hrun, hended, _, _, rfl, ⟨N, by show Keep h0 T.heap ws; rw [eh]; exact K0, by show Q _ T.heap; rw [eh]; exact q⟩, by show CHr Z EL s.vm h0 T.vm T.heap; rw [eh]; exact C.trans (CHv.at X hZ hEL C.1), hRE⟩
theorem Wk.retN (W : Wk p l e R s m args below meth c Z EL h0 ws s.vm T h cells slots) (hx : p.tables.exec = Jvm.exec) {z : Int32} (z' : Int32) {t : FieldType} (hn : nar t z = z') (ht : t = .boolean ∨ t = .byte ∨ t = .char ∨ t = .short) (hret : meth.sig.returnType = some t) (hlk : meth.locks = false) (hd : decode c.code pc = .ok (.ireturn, 1)) (hc : cells ≤ mc) (hs : slots ≤ ms) (q : Q (some (.int z')) h) : Goes p e below (PostN s Z h0 ws Q mc ms) (T.setTop (mkF m pc ls (.int z :: rest))) := by
  subst hn
  obtain ⟨locs, X, N, eh, K0, -⟩ := W
  have X : Stand p l e R s m args below meth c T locs cells slots := X
  obtain ⟨fs, hr, hrun, hended, hW, hsame⟩ := X.leave (v := some (.int (nar t z))) (fun q => by rw [hret] at q; cases q) hlk
  exact ⟨_, _, RoadKit.retN X hx hret ht hd hr, hrun, hended, _, _, rfl, ⟨N, by show Keep h0 T.heap ws; rw [eh]; exact K0, by show Q _ T.heap; rw [eh]; exact q⟩, ⟨_, rfl⟩, hW, hsame.mono hc hs⟩
theorem Wk.retNW (W : Wk p l e R s m args below meth c Z EL h0 ws vm0 T h cells slots) (hx : p.tables.exec = Jvm.exec) (hEL : EW Z a0 EL) {z : Int32} (z' : Int32) {t : FieldType} (hn : nar t z = z') (ht : t = .boolean ∨ t = .byte ∨ t = .char ∨ t = .short) (hret : meth.sig.returnType = some t) (hlk : meth.locks = false) (hd : decode c.code pc = .ok (.ireturn, 1)) (hc : cells ≤ mc) (hs : slots ≤ ms) (q : Q (some (.int z')) h) : Goes p e below (PostW s Z EL h0 ws Q mc ms) (T.setTop (mkF m pc ls (.int z :: rest))) := by
  subst hn
  have W0 := W.mono hc hs
  obtain ⟨locs, X, N, eh, K0, es, -, -, hZ, ⟨k0, hS, hk⟩, C⟩ := W0
  obtain ⟨fs, hr, hrun, hended, hRE⟩ := X.leaveW hS (by rw [eh]; exact hk) (v := some (.int (nar t z))) (fun q => by rw [hret] at q; cases q) hlk
  exact ⟨_, _, RoadKit.retN X hx hret ht hd hr, hrun, hended, _, _, rfl, ⟨N, by show Keep h0 T.heap ws; rw [eh]; exact K0, by show Q _ T.heap; rw [eh]; exact q⟩, by show CHr Z EL s.vm h0 T.vm T.heap; rw [eh]; exact C.trans (CHv.at X hZ hEL C.1), hRE⟩
theorem Wk.retV (W : Wk p l e R s m args below meth c Z EL h0 ws s.vm T h cells slots) (hx : p.tables.exec = Jvm.exec) (hret : meth.sig.returnType = none) (hlk : meth.locks = false) (hd : decode c.code pc = .ok (.return_, 1)) (hc : cells ≤ mc) (hs : slots ≤ ms) (q : Q none h) : Goes p e below (PostN s Z h0 ws Q mc ms) (T.setTop (mkF m pc ls [])) := by
  obtain ⟨locs, X, N, eh, K0, -⟩ := W
  have X : Stand p l e R s m args below meth c T locs cells slots := X
  obtain ⟨fs, hr, hrun, hended, hW, hsame⟩ := X.leave (v := none) (fun _ => rfl) hlk
  exact ⟨_, _, X.returnOut hx hret hd hr, hrun, hended, _, _, rfl, ⟨N, by show Keep h0 T.heap ws; rw [eh]; exact K0, by show Q _ T.heap; rw [eh]; exact q⟩, ⟨_, rfl⟩, hW, hsame.mono hc hs⟩
theorem Wk.retVW (W : Wk p l e R s m args below meth c Z EL h0 ws vm0 T h cells slots) (hx : p.tables.exec = Jvm.exec) (hEL : EW Z a0 EL) (hret : meth.sig.returnType = none) (hlk : meth.locks = false) (hd : decode c.code pc = .ok (.return_, 1)) (hc : cells ≤ mc) (hs : slots ≤ ms) (q : Q none h) : Goes p e below (PostW s Z EL h0 ws Q mc ms) (T.setTop (mkF m pc ls [])) := by
  have W0 := W.mono hc hs
  obtain ⟨locs, X, N, eh, K0, es, -, -, hZ, ⟨k0, hS, hk⟩, C⟩ := W0
  obtain ⟨fs, hr, hrun, hended, hRE⟩ := X.leaveW hS (by rw [eh]; exact hk) (v := none) (fun _ => rfl) hlk
  exact ⟨_, _, X.returnOut hx hret hd hr, hrun, hended, _, _, rfl, ⟨N, by show Keep h0 T.heap ws; rw [eh]; exact K0, by show Q _ T.heap; rw [eh]; exact q⟩, by show CHr Z EL s.vm h0 T.vm T.heap; rw [eh]; exact C.trans (CHv.at X hZ hEL C.1), hRE⟩
end Ends
end Jvm.OwnKit
namespace Jvm.OwnKit
open Sem ClassFile Op Lib Jvm.Stand Jvm.Free Jvm.LawKit Jvm.RoadKit
theorem neA {x y : Addr} (h : @LT.lt Nat _ x y ∨ @LT.lt Nat _ y x) : x ≠ y := h.elim (fun q => Nat.ne_of_lt q) (fun q => Nat.ne_of_gt q)
theorem ltN {a : Addr} {n : Nat} (h : a < n) : @LT.lt Nat _ a n := h
theorem ltA {a : Addr} {n : Nat} (h : @LT.lt Nat _ a n) : a < n := h
theorem all1 {a : Addr} {n : Nat} (h : @LT.lt Nat _ a n) : ∀ x ∈ [a], x < n := fun x hx => by cases List.mem_singleton.mp hx; exact h
theorem neN {x y : Addr} (h : x ≠ y) : @LT.lt Nat _ x y ∨ @LT.lt Nat _ y x := Nat.lt_or_gt_of_ne h
theorem cat_int (x : Int32) : (Value.int x).category = 1 := rfl
theorem cat_long (x : Int64) : (Value.long x).category = 2 := rfl
theorem cat_refv (x : Addr) : (Value.ref x).category = 1 := rfl
theorem cat_null : Value.null.category = 1 := rfl
theorem ref_nar {t : FieldType} {v : Value} (ht : t.isReference = true) (hv : v.isRef = true) : narrow t v = v ∧ fits t v = true := by
  cases t <;> simp [FieldType.isReference] at ht <;> cases v <;> simp [Value.isRef] at hv <;> exact ⟨rfl, rfl⟩
theorem bool_nar {x : Int32} (h : x = 0 ∨ x = 1) : narrow .boolean (.int x) = .int x ∧ fits .boolean (.int x) = true := by rcases h with rfl | rfl <;> exact ⟨rfl, rfl⟩
theorem cat_ref {v : Value} (h : v.isRef = true) : v.category = 1 := by cases v <;> simp [Value.isRef] at h <;> rfl
theorem one_ref {v : Value} (h : v.isRef = true) : Slot.val v = .unset ∨ ∃ w, Slot.val v = .val w ∧ w.category = 1 := Or.inr ⟨v, rfl, cat_ref h⟩
/-- an int of Java's type char, below 256 -/
def C8 (x : Int32) : Prop := ¬ x < 0 ∧ ¬ (255 : Int32) < x
/-- an int of Java's type char -/
def C16 (x : Int32) : Prop := ¬ x < 0 ∧ ¬ (65535 : Int32) < x
theorem i32lt {x y : Int32} : x < y ↔ x.toInt < y.toInt := Int32.lt_iff_toInt_lt
theorem i32nat {y : Int32} (h : y.toBitVec.toNat < 2 ^ 31) : y.toInt = (y.toBitVec.toNat : Int) := by
  have : y.toInt = y.toBitVec.toInt := rfl
  rw [this, BitVec.toInt_eq_toNat_cond, if_pos (by omega)]
theorem C16.nat {x : Int32} (h : C16 x) : x.toBitVec.toNat < 65536 := by
  obtain ⟨h1, h2⟩ := h
  rw [i32lt] at h1 h2
  have e0 : (0 : Int32).toInt = 0 := rfl
  have e1 : (65535 : Int32).toInt = 65535 := rfl
  have : x.toInt = x.toBitVec.toInt := rfl
  have hb := x.toBitVec.isLt
  rw [this, BitVec.toInt_eq_toNat_cond] at h1 h2
  by_cases hc : 2 * x.toBitVec.toNat < 2 ^ 32
  · rw [if_pos hc] at h2; omega
  · rw [if_neg hc] at h1; omega
theorem C16.of {x : Int32} (h : x.toBitVec.toNat < 65536) : C16 x := by
  have e := i32nat (y := x) (by omega)
  constructor
  · rw [i32lt, e]; have e0 : (0 : Int32).toInt = 0 := rfl
    omega
  · rw [i32lt, e]; have e1 : (65535 : Int32).toInt = 65535 := rfl
    omega
theorem C8.of {x : Int32} (h : x.toBitVec.toNat < 256) : C8 x := by
  have e := i32nat (y := x) (by omega)
  constructor
  · rw [i32lt, e]; have e0 : (0 : Int32).toInt = 0 := rfl
    omega
  · rw [i32lt, e]; have e1 : (255 : Int32).toInt = 255 := rfl
    omega
theorem C8.up {x : Int32} (h : C8 x) : C16 x := ⟨h.1, fun q => h.2 (by rw [i32lt] at q ⊢; have e1 : (65535 : Int32).toInt = 65535 := rfl; have e2 : (255 : Int32).toInt = 255 := rfl; omega)⟩
theorem i2c_nat (x : Int32) : (i2c x).toBitVec.toNat = x.toBitVec.toNat % 65536 := by
  have h : (i2c x).toBitVec = (x.toBitVec.setWidth 16).setWidth 32 := rfl
  rw [h, BitVec.toNat_setWidth, BitVec.toNat_setWidth]
  omega
theorem i2c_c16 (x : Int32) : C16 (i2c x) := C16.of (by rw [i2c_nat]; omega)
theorem i2c_id {x : Int32} (h : C16 x) : i2c x = x := by
  apply Int32.toBitVec_inj.mp
  apply BitVec.eq_of_toNat_eq
  rw [i2c_nat]
  have := h.nat
  omega
theorem nar_c16 {x : Int32} (h : C16 x) : nar .char x = x := i2c_id h
theorem and_nat (x : Int32) (k : Nat) (hk : k < 2 ^ 31) : (x &&& Int32.ofNat k).toBitVec.toNat ≤ k := by
  have e : (x &&& Int32.ofNat k).toBitVec.toNat = x.toBitVec.toNat &&& (Int32.ofNat k).toBitVec.toNat := by simp [Int32.toBitVec_and, BitVec.toNat_and]
  have e2 : (Int32.ofNat k).toBitVec.toNat = k := by
    show (BitVec.ofNat 32 k).toNat = k
    rw [BitVec.toNat_ofNat]; omega
  rw [e, e2]; exact Nat.and_le_right
theorem and255 (x : Int32) : C8 (x &&& 255) := C8.of (Nat.lt_of_le_of_lt (and_nat x 255 (by decide)) (by decide))
theorem i2c_255 (x : Int32) : i2c (x &&& 255) = x &&& 255 := i2c_id (and255 x).up
theorem i2c_c8 (x : Int32) : C8 (i2c (x &&& 255)) := by rw [i2c_255]; exact and255 x
theorem ala {α : Type} {P : α → Prop} {y : α} {L : List α} (q : P y) (r : ∀ x ∈ L, P x) : ∀ x ∈ y :: L, P x := fun x z => (List.mem_cons.mp z).elim (fun u => u ▸ q) (r x)
theorem ala0 {α : Type} {P : α → Prop} : ∀ x ∈ ([] : List α), P x := fun _ q => nomatch q
/-- x holds no byte[] -/
def NB (Z : State) (h : Heap) (x : Addr) : Prop := ∀ c : Cell, ¬ Arr Z h x c .byte
theorem NB.exa {Z : State} {h : Heap} {x : Addr} {C : String} {n : Nat} {a0 : Array Value} (E : Exa Z h x C) (w : (Cond.instantiable C n).before a0 Z = true) : NB Z h x := fun c A => RoadKit.ne_arr E w A rfl
theorem NB.arr {Z : State} {h : Heap} {x : Addr} {cl : Cell} {ty : FieldType} (A : Arr Z h x cl ty) (ht : ty ≠ .byte) : NB Z h x := fun c B => by
  cases A.1.symm.trans B.1
  obtain ⟨-, k, h1, comp, h2⟩ := A.2.1
  obtain ⟨-, k', g1, comp', g2⟩ := B.2.1
  cases h1.symm.trans g1
  rw [h2] at g2
  injection g2 with _ e
  exact ht e
theorem NB.arv {Z : State} {h : Heap} {x : Addr} {k : ClassId} {ty : FieldType} {n : Int32} {vs : List Value} {d : Value} (V : Arv Z h x k ty n vs d) (ht : ty ≠ .byte) : NB Z h x := by
  obtain ⟨c, A, -⟩ := V; exact NB.arr A ht
end Jvm.OwnKit
namespace Jvm.OwnKit
open Sem ClassFile Op Lib Jvm.Stand Jvm.Free Jvm.LawKit Jvm.RoadKit
theorem safe0 {Z : State} {vm : Vm} {h : Heap} {x : Addr} : Safe Z [] vm h x := fun B => by obtain ⟨p, hp, -⟩ := B; cases hp
theorem inr1 {a : Addr} {n : Nat} (h : @LE.le Nat _ n a) {ws : List Addr} : ∀ x ∈ [a], x ∈ ws ∨ @LE.le Nat _ n x := fun x hx => by cases List.mem_singleton.mp hx; exact Or.inr h
theorem hws1 {Z : State} {EL : List (String × Nat)} {vm : Vm} {h : Heap} {a : Addr} {n : Nat} {ws : List Addr} (q : a ∈ ws ∨ @LE.le Nat _ n a) (S : Safe Z EL vm h a) : ∀ x ∈ [a], (x ∈ ws ∨ @LE.le Nat _ n x) ∧ Safe Z EL vm h x := fun x hx => by cases List.mem_singleton.mp hx; exact ⟨q, S⟩
theorem i2b_i2b (x : Int32) : nar .byte (i2b x) = i2b x := by
  show ((x.toInt8.toInt32).toInt8).toInt32 = x.toInt8.toInt32
  rw [Int8.toInt8_toInt32]
end Jvm.OwnKit
namespace Jvm.OwnKit
open Sem ClassFile Op Lib Jvm.Stand Jvm.Free Jvm.LawKit Jvm.RoadKit
/-- a class right under the root is no subclass of a class that can be made an object of -/
theorem not_sub {Z : State} {a0 : Array Value} {C O K : String} {n : Nat} (w : (Cond.superclass C O).before a0 Z = true) (wo : (Cond.noSuperclass O).before a0 Z = true) (wi : (Cond.instantiable K n).before a0 Z = true) (h1 : C ≠ K) (h2 : O ≠ K) : ∃ c t, Z.vm.findClass C = some c ∧ Z.vm.findClass K = some t ∧ Z.vm.assignable c t = false := by
  obtain ⟨t, kt, g1, g2, g3, g4, -⟩ := Cond.instantiable_spec wi
  obtain ⟨o, ko, o1, o2, o3, -, -⟩ := Cond.noSuperclass_spec wo
  have neO := ids_ne o1 g1 h2
  have N0 : NS Z O K := by
    refine ⟨o, t, o1, g1, fun fuel => ?_⟩
    cases fuel with
    | zero => rfl
    | succ f => simp [Vm.isSubclassAux, neO, o2, o3]
  obtain ⟨c, t', c1, c2, c3⟩ := NS.step w N0 h1
  cases g1.symm.trans c2
  obtain ⟨p, k, kp, q1, q2, q3, q4, q5, -, q7⟩ := Cond.superclass_spec c1 w
  have ne := ids_ne c1 g1 h1
  have hi : kt.isInterface = false := by
    cases hq : kt.isInterface with
    | false => rfl
    | true => rw [hq] at g4; cases g4
  refine ⟨c, t, c1, g1, ?_⟩
  show Z.vm.assignableAux (255 + 1) c t = false
  simp [Vm.assignableAux, ne, q2, g2, q5, g3, hi, Vm.isSubclass, c3]
end Jvm.OwnKit
namespace Jvm.OwnKit
open Sem ClassFile Op Lib Jvm.Stand Jvm.Free Jvm.LawKit Jvm.RoadKit
section Lits
variable {p : Program} {l : Launch} {e : Env} {R : Room} {s : State} {m : MethodId} {args : Array Value} {below : List Frame} {meth : Method} {c : Code} {Z : State} {EL : List (String × Nat)} {h0 : Heap} {ws : List Addr} {vm0 : Vm} {T : State} {h : Heap} {cells slots : Nat} {a0 : Array Value} {Post : Outcome → State → Prop} {pc : Nat} {ls : Array Slot} {st rest : List Value} {own : String}
/-- ldc of a String constant, its text read -/
theorem Wk.ldcE (W : Wk p l e R s m args below meth c Z EL h0 ws vm0 T h cells slots) (hx : p.tables.exec = Jvm.exec) (ho : Z.vm.findClass own = some m.cls) {index : Nat} {text : String} (w : (Cond.stringLink own index text).before a0 Z = true) (wS : ∀ a ∈ Bundle.stringAtoms, a.before a0 Z = true) (hEL : EW Z a0 EL) (hmem : (own, index) ∈ EL)
    {vs : List Value} {z : Int32} (ht : (∀ c ∈ text.toList, c.toNat < 256) ∧ text.toList.map (fun c => Value.int (Jvm.Lit.byteI c.toNat.toUInt16)) = vs) (hz : ¬ z < 0) (hl : z.toNatClampNeg = vs.length)
    (pc' : Nat) (hd : decode c.code pc = .ok (.ldc index, 2)) (hp : pc + 2 = pc') (n : Nat) (hn : 4 * text.toList.length ≤ n) (hbig : n ≤ 536870912) (hc : cells + 2 ≤ R.cells) (hl' : slots + (n + 4) ≤ R.slots)
    (K : ∀ (vm1 : Vm) (T' : State) (h' : Heap) (a b : Addr) (k : ClassId), Wk p l e R s m args below meth c Z EL h0 ws vm1 T' h' (cells + 2) (slots + (n + 4)) → Ext h h' → CHr Z EL vm0 h vm1 h' → Exa Z h' a "java/lang/String" → Fld Z h' a "java/lang/String" "coder" "B" (.int 0) → Fld Z h' a "java/lang/String" "value" "[B" (.ref b) → Arv Z h' b k .byte z vs (.int 0) → (∀ x, Safe Z EL vm1 h' x → x ≠ a ∧ x ≠ b) → Goes p e below Post (T'.setTop (mkF m pc' ls (.ref a :: st)))) : Goes p e below Post (T.setTop (mkF m pc ls st)) := by
  subst hp
  have ho' := W.wown ho
  obtain ⟨locs, X, N, eh, K0, es, O, hws, hZ, ⟨k0, hS, hk⟩, C⟩ := W
  obtain ⟨a, T', h', k1, b, k, X', e', E, hS', hk', hZ', -, F1, F2, F3, F4, -, -, C', -, hsep, stp⟩ := ldcCH X hx hZ ho' w wS eh hS hk hEL hmem C.1 ht hz hl (g := mkF m pc ls st) rfl hd hn hbig hc hl'
  exact Goes.go stp (K T'.vm T' h' a b k ⟨locs, X', N, e', K0.ext E, es, O, hws, hZ', ⟨k1, hS', hk'⟩, C.trans C'⟩ E C' F1 F2 F3 F4 hsep)
end Lits
end Jvm.OwnKit
/- laws to paste: Road.backV, Road.lenW, Road.codOf (cut by pick.py; bodies as the Statement names them) -/
namespace Jvm.Pilot.@@N@@
namespace StrChars
open Jvm Sem ClassFile Op Lib Jvm.Stand Jvm.Free.XT Jvm.Free.ALB Jvm.Free.JM Jvm.Free
open Jvm.Lib.Cold (StaticIs)
/-- a char array whose places are chars -/
def Ch (a : Addr) (A : Cell) (U : State) : Prop := Arr .char a A U ∧ Typed .char A
theorem Ch.mv {a : Addr} {A : Cell} {U U' : State} (h : Ch a A U) (hal : U.vm.Alike U'.vm) (hh : U'.heap = U.heap) : Ch a A U' := ⟨h.1.mv hal hh, h.2⟩
theorem Ch.keep {a : Addr} {A : Cell} {U U' : State} (h : Ch a A U) (hal : U.vm.Alike U'.vm) (hk : U'.heap[a]? = some A) : Ch a A U' := ⟨h.1.keep hal hk, h.2⟩
/-- what place i of a char[]'s cell holds -/
def cv (A : Cell) (i : Nat) : Int32 := match A.slots[i]? with | some (.int x) => x | _ => 0
theorem Ch.get {a : Addr} {A : Cell} {U : State} (h : Ch a A U) {i : Nat} (hi : i < A.slots.size) : A.slots[i]? = some (.int (cv A i)) := by
  have e := Array.getElem?_eq_getElem hi
  have f := h.2 i _ e
  unfold cv; rw [e]
  generalize A.slots[i] = v at f
  cases v <;> simp [fits] at f ⊢
/-- the byte that i2b leaves of a char -/
def lo8 (x : Int32) : Int32 := x.toInt8.toInt32
theorem fits_lo8 (y : Int32) : fits .byte (.int (lo8 y)) = true := by
  have h1 := y.toInt8.le_toInt
  have h2 := y.toInt8.toInt_lt
  simp only [lo8, fits, Bool.and_eq_true, decide_eq_true_eq, Int32.le_iff_toInt_le, Int8.toInt_toInt32, show (-128 : Int32).toInt = -128 from by decide, show (127 : Int32).toInt = 127 from by decide]
  omega
/-- A' is A but that each place j of lo .. hi - 1 holds f j -/
def Laid (A A' : Cell) (lo hi : Nat) (f : Nat → Value) : Prop := A'.cls = A.cls ∧ A'.vm = A.vm ∧ A'.slots.size = A.slots.size ∧ ∀ i, A'.slots[i]? = if lo ≤ i ∧ i < hi then some (f i) else A.slots[i]?
theorem Laid.zero (A : Cell) (lo : Nat) (f : Nat → Value) : Laid A A lo (lo + 0) f := ⟨rfl, rfl, rfl, fun i => by rw [if_neg (by omega)]⟩
theorem Laid.step {A Ak : Cell} {lo k : Nat} {f : Nat → Value} {v : Value} (h : Laid A Ak lo k f) (hlo : lo ≤ k) (hk : k < Ak.slots.size) (hv : v = f k) : Laid A (Ak.setSlot k v) lo (k + 1) f := by
  refine ⟨h.1, h.2.1, by simpa [Cell.setSlot] using h.2.2.1, fun i => ?_⟩
  by_cases e : k = i
  · subst e; rw [Cell.slots_setSlot_self v hk, if_pos (by omega), hv]
  · rw [Cell.slots_setSlot_ne v e, h.2.2.2 i]
    by_cases q : lo ≤ i ∧ i < k
    · rw [if_pos q, if_pos (by omega)]
    · rw [if_neg q, if_neg (by omega)]
def U16 : String := "java/lang/StringUTF16"
namespace Cmp5
def yN : MethodName := ⟨"java/lang/StringUTF16", "compress", "([CI[BII)I"⟩
abbrev yB : ByteArray := jdk_52_method_21_code
theorem d0 : decode yB 0 = .ok (.iconst 0, 1) := by decide +kernel
theorem d1 : decode yB 1 = .ok (.istore 5, 2) := by decide +kernel
theorem d3 : decode yB 3 = .ok (.iload 5, 2) := by decide +kernel
theorem d5 : decode yB 5 = .ok (.iload 4, 2) := by decide +kernel
theorem d7 : decode yB 7 = .ok (.if_icmp (.ge) 37, 3) := by decide +kernel
theorem d10 : decode yB 10 = .ok (.aload_n 0, 1) := by decide +kernel
theorem d11 : decode yB 11 = .ok (.iload_n 1, 1) := by decide +kernel
theorem d12 : decode yB 12 = .ok (.caload, 1) := by decide +kernel
theorem d13 : decode yB 13 = .ok (.istore 6, 2) := by decide +kernel
theorem d15 : decode yB 15 = .ok (.iload 6, 2) := by decide +kernel
theorem d17 : decode yB 17 = .ok (.sipush 255, 3) := by decide +kernel
theorem d20 : decode yB 20 = .ok (.if_icmp (.le) 6, 3) := by decide +kernel
theorem d26 : decode yB 26 = .ok (.aload_n 2, 1) := by decide +kernel
theorem d27 : decode yB 27 = .ok (.iload_n 3, 1) := by decide +kernel
theorem d28 : decode yB 28 = .ok (.iload 6, 2) := by decide +kernel
theorem d30 : decode yB 30 = .ok (.i2b, 1) := by decide +kernel
theorem d31 : decode yB 31 = .ok (.bastore, 1) := by decide +kernel
theorem d32 : decode yB 32 = .ok (.iinc 1 1, 3) := by decide +kernel
theorem d35 : decode yB 35 = .ok (.iinc 3 1, 3) := by decide +kernel
theorem d38 : decode yB 38 = .ok (.iinc 5 1, 3) := by decide +kernel
theorem d41 : decode yB 41 = .ok (.goto (-38), 3) := by decide +kernel
theorem d44 : decode yB 44 = .ok (.iload 4, 2) := by decide +kernel
theorem d46 : decode yB 46 = .ok (.ireturn, 1) := by decide +kernel
def site : List Cond := []
def tab : Cond := tabOf yN yB 7 (some .int) site
def P (b : Addr) (A : Cell) (d : Addr) (B : Cell) (o q len : Nat) (args : Array Value) (s : State) : Prop := args = #[.ref b, .int (Int32.ofNat o), .ref d, .int (Int32.ofNat q), .int (Int32.ofNat len)] ∧ Ch b A s ∧ Arr .byte d B s ∧ b ≠ d ∧ o + len ≤ A.slots.size ∧ q + len ≤ B.slots.size ∧ ∀ i, i < len → ¬ 255 < cv A (o + i)
def E (b : Addr) (A : Cell) (d : Addr) (B : Cell) (o q len : Nat) (r : Option Value) (s u : State) : Prop := r = some (.int (Int32.ofNat len)) ∧ ∃ B', Put d B' s u ∧ Laid B B' q (q + len) (fun j => Value.int (lo8 (cv A (o + (j - q)))))
/-- no char of the range above 255: len; the places written hold each char's low byte -/
theorem law (l : Launch) (b : Addr) (A : Cell) (d : Addr) (B : Cell) (o q len : Nat) : Law l yN 5 5 0 0 yB 7 (some .int) site (P b A d B o q len) (E b A d B o q len) (copyLocs d q len) 0 0 := by
  refine Law.of_walk (plainFor_of_name (by decide +kernel)) (by decide +kernel) (by decide +kernel) (by decide) (fun _ _ h => by rw [h.1]; rfl) (fun _ U U' hal hh h => ⟨h.1, h.2.1.mv hal hh, h.2.2.1.mv hal hh, h.2.2.2⟩) (fun r U U' V V' h1 hal h2 h => ⟨h.1, h.2.elim fun B' q => ⟨B', q.1.mv h1 h2, q.2⟩⟩) ?_
  intro p e s m args below meth c s₁ X0 hexec hbytes hml hret hlk hnm hown hh0 W hP
  obtain ⟨rfl, hA, hB, hne, l1, l2, hp⟩ := hP
  have c1 : Steps p.tables e below (s₁.setTop (entryFrame m #[.ref b, .int (Int32.ofNat o), .ref d, .int (Int32.ofNat q), .int (Int32.ofNat len)] 7)) (s₁.setTop (mkF m 0 #[.val (.ref b), .val (.int (Int32.ofNat o)), .val (.ref d), .val (.int (Int32.ofNat q)), .val (.int (Int32.ofNat len)), .unset, .unset] [])) := entry rfl
  have hA0 := hA.1.mv X0.warmed.alike hh0
  have hB0 := hB.mv X0.warmed.alike hh0
  have a31 := hA.1.2.2.2
  have c2 : Steps p.tables e below (s₁.setTop (entryFrame m #[.ref b, .int (Int32.ofNat o), .ref d, .int (Int32.ofNat q), .int (Int32.ofNat len)] 7)) (s₁.setTop (mkF m 3 #[.val (.ref b), .val (.int (Int32.ofNat o)), .val (.ref d), .val (.int (Int32.ofNat q)), .val (.int (Int32.ofNat len)), .val (.int 0), .unset] [])) := c1.trans (by
    refine iconstV X0.here hexec rfl 0 (hb hbytes d0) (by decide) ?_
    refine XS.istore X0.here hexec rfl (hb hbytes d1) rfl rfl ?_
    exact Steps.refl _)
  have loop : ∀ (r i : Nat), i + r = len → ∀ (z : Slot), (z = .unset ∨ ∃ w, z = .val w ∧ w.category = 1) → ∀ (Tl : State) (Bk : Cell), Stand p l e { frames := 0, locals := 0, cells := 0, slots := 0 } s m #[.ref b, .int (Int32.ofNat o), .ref d, .int (Int32.ofNat q), .int (Int32.ofNat len)] below meth c Tl ([] ++ copyLocs d q i) 0 0 → Put d Bk s₁ Tl → Laid B Bk q (q + i) (fun j => Value.int (lo8 (cv A (o + (j - q))))) →
      Steps p.tables e below (s₁.setTop (entryFrame m #[.ref b, .int (Int32.ofNat o), .ref d, .int (Int32.ofNat q), .int (Int32.ofNat len)] 7)) (Tl.setTop (mkF m 3 #[.val (.ref b), .val (.int (Int32.ofNat (o + i))), .val (.ref d), .val (.int (Int32.ofNat (q + i))), .val (.int (Int32.ofNat len)), .val (.int (Int32.ofNat i)), z] [])) → ∃ (T' : State) (B' : Cell) (z' : Slot), Stand p l e { frames := 0, locals := 0, cells := 0, slots := 0 } s m #[.ref b, .int (Int32.ofNat o), .ref d, .int (Int32.ofNat q), .int (Int32.ofNat len)] below meth c T' ([] ++ copyLocs d q len) 0 0 ∧ Put d B' s₁ T' ∧ Laid B B' q (q + len) (fun j => Value.int (lo8 (cv A (o + (j - q))))) ∧
      Steps p.tables e below (s₁.setTop (entryFrame m #[.ref b, .int (Int32.ofNat o), .ref d, .int (Int32.ofNat q), .int (Int32.ofNat len)] 7)) (T'.setTop (mkF m 3 #[.val (.ref b), .val (.int (Int32.ofNat (o + len))), .val (.ref d), .val (.int (Int32.ofNat (q + len))), .val (.int (Int32.ofNat len)), .val (.int (Int32.ofNat len)), z'] [])) := by
    intro r
    induction r with
    | zero =>
      intro i hi z hz Tl Bk Xl pl fl cl
      have hil : i = len := by omega
      rw [hil] at Xl fl cl
      exact ⟨Tl, Bk, z, Xl, pl, fl, cl⟩
    | succ r ih =>
      intro i hi z hz Tl Bk Xl pl fl cl
      have all := X0.warmed.alike.symm.trans Xl.warmed.alike
      have hAl := hA0.keep all (pl.other hne hA0.1)
      have hBk := hB0.like all pl.1 fl.1 fl.2.1 fl.2.2.1
      have hlt : q + i < Bk.slots.size := by rw [fl.2.2.1]; omega
      have c3 : Steps p.tables e below (s₁.setTop (entryFrame m #[.ref b, .int (Int32.ofNat o), .ref d, .int (Int32.ofNat q), .int (Int32.ofNat len)] 7)) (Tl.setTop (mkF m 12 #[.val (.ref b), .val (.int (Int32.ofNat (o + i))), .val (.ref d), .val (.int (Int32.ofNat (q + i))), .val (.int (Int32.ofNat len)), .val (.int (Int32.ofNat i)), z] [.int (Int32.ofNat (o + i)), .ref b])) := cl.trans (by
        refine XS.iload Xl.here hexec rfl (hb hbytes d3) rfl ?_
        refine XS.iload Xl.here hexec rfl (hb hbytes d5) rfl ?_
        refine XS.icmpNo Xl.here hexec rfl (hb hbytes d7) rfl (ii_ge_f (lt32 (by omega) (by omega))) ?_
        refine XS.aloadN Xl.here hexec rfl (hb hbytes d10) rfl rfl ?_
        refine XS.iloadN Xl.here hexec rfl (hb hbytes d11) rfl ?_
        exact Steps.refl _)
      have c4 : Steps p.tables e below (s₁.setTop (entryFrame m #[.ref b, .int (Int32.ofNat o), .ref d, .int (Int32.ofNat q), .int (Int32.ofNat len)] 7)) (Tl.setTop (mkF m 13 #[.val (.ref b), .val (.int (Int32.ofNat (o + i))), .val (.ref d), .val (.int (Int32.ofNat (q + i))), .val (.int (Int32.ofNat len)), .val (.int (Int32.ofNat i)), z] [.int (cv A (o + i))])) := c3.trans (by
        refine Xl.aget hexec hAl rfl (hA.get (i := o + i) (by omega)) rfl rfl (hb hbytes d12) ?_
        exact Steps.refl _)
      have c5 : Steps p.tables e below (s₁.setTop (entryFrame m #[.ref b, .int (Int32.ofNat o), .ref d, .int (Int32.ofNat q), .int (Int32.ofNat len)] 7)) (Tl.setTop (mkF m 15 #[.val (.ref b), .val (.int (Int32.ofNat (o + i))), .val (.ref d), .val (.int (Int32.ofNat (q + i))), .val (.int (Int32.ofNat len)), .val (.int (Int32.ofNat i)), .val (.int (cv A (o + i)))] [])) := c4.trans (by
        refine XS.istoreS Xl.here hexec rfl (hb hbytes d13) rfl rfl hz ?_
        exact Steps.refl _)
      have c6 : Steps p.tables e below (s₁.setTop (entryFrame m #[.ref b, .int (Int32.ofNat o), .ref d, .int (Int32.ofNat q), .int (Int32.ofNat len)] 7)) (Tl.setTop (mkF m 31 #[.val (.ref b), .val (.int (Int32.ofNat (o + i))), .val (.ref d), .val (.int (Int32.ofNat (q + i))), .val (.int (Int32.ofNat len)), .val (.int (Int32.ofNat i)), .val (.int (cv A (o + i)))] [.int (lo8 (cv A (o + i))), .int (Int32.ofNat (q + i)), .ref d])) := c5.trans (by
        refine XS.iload Xl.here hexec rfl (hb hbytes d15) rfl ?_
        refine sipushV Xl.here hexec rfl 255 (hb hbytes d17) (by decide) ?_
        refine XS.icmpYes Xl.here hexec rfl (pc0 := 20) rfl (hb hbytes d20) rfl (ii_le_t (hp i (by omega))) (by decide) rfl ?_
        refine XS.aloadN Xl.here hexec rfl (hb hbytes d26) rfl rfl ?_
        refine XS.iloadN Xl.here hexec rfl (hb hbytes d27) rfl ?_
        refine XS.iload Xl.here hexec rfl (hb hbytes d28) rfl ?_
        refine i2b Xl.here hexec rfl (hb hbytes d30) rfl ?_
        exact Steps.refl _)
      obtain ⟨T7, X7, p7, st7⟩ := Xl.aput hexec hBk rfl hlt rfl (fits_lo8 (cv A (o + i))) (g := (mkF m 31 #[.val (.ref b), .val (.int (Int32.ofNat (o + i))), .val (.ref d), .val (.int (Int32.ofNat (q + i))), .val (.int (Int32.ofNat len)), .val (.int (Int32.ofNat i)), .val (.int (cv A (o + i)))] [.int (lo8 (cv A (o + i))), .int (Int32.ofNat (q + i)), .ref d])) rfl (rest := []) rfl (hb hbytes d31)
      have c8 : Steps p.tables e below (s₁.setTop (entryFrame m #[.ref b, .int (Int32.ofNat o), .ref d, .int (Int32.ofNat q), .int (Int32.ofNat len)] 7)) (T7.setTop (mkF m 32 #[.val (.ref b), .val (.int (Int32.ofNat (o + i))), .val (.ref d), .val (.int (Int32.ofNat (q + i))), .val (.int (Int32.ofNat len)), .val (.int (Int32.ofNat i)), .val (.int (cv A (o + i)))] [])) := c6.trans (st7 _ (Steps.refl _))
      have c9 : Steps p.tables e below (s₁.setTop (entryFrame m #[.ref b, .int (Int32.ofNat o), .ref d, .int (Int32.ofNat q), .int (Int32.ofNat len)] 7)) (T7.setTop (mkF m 3 #[.val (.ref b), .val (.int (Int32.ofNat (o + i) + 1)), .val (.ref d), .val (.int (Int32.ofNat (q + i) + 1)), .val (.int (Int32.ofNat len)), .val (.int (Int32.ofNat i + 1)), .val (.int (cv A (o + i)))] [])) := c8.trans (by
        refine iincV X7.here hexec rfl 1 (hb hbytes d32) (by decide) rfl rfl ?_
        refine iincV X7.here hexec rfl 1 (hb hbytes d35) (by decide) rfl rfl ?_
        refine iincV X7.here hexec rfl 1 (hb hbytes d38) (by decide) rfl rfl ?_
        refine XS.goto X7.here hexec rfl (pc0 := 41) rfl (hb hbytes d41) (by decide) rfl ?_
        exact Steps.refl _)
      have c10 : Steps p.tables e below (s₁.setTop (entryFrame m #[.ref b, .int (Int32.ofNat o), .ref d, .int (Int32.ofNat q), .int (Int32.ofNat len)] 7)) (T7.setTop (mkF m 3 #[.val (.ref b), .val (.int (Int32.ofNat (o + (i + 1)))), .val (.ref d), .val (.int (Int32.ofNat (q + (i + 1)))), .val (.int (Int32.ofNat len)), .val (.int (Int32.ofNat (i + 1))), .val (.int (cv A (o + i)))] [])) := by
        have := c9
        rw [succ32, succ32, succ32] at this
        exact this
      exact ih (i + 1) (by omega) _ (Or.inr ⟨_, rfl, rfl⟩) T7 _ (by rw [copyLocs_step, ← List.append_assoc]; exact X7) (pl.trans p7) (fl.step (by omega) hlt (by simp)) c10
  obtain ⟨T9, B9, z9, X9, p9, f9, g9⟩ := loop len 0 (by omega) .unset (Or.inl rfl) s₁ B (by simpa [copyLocs] using X0) ⟨hB0.1, fun _ _ => rfl, rfl⟩ (Laid.zero _ _ _) c2
  have c11 : Steps p.tables e below (s₁.setTop (entryFrame m #[.ref b, .int (Int32.ofNat o), .ref d, .int (Int32.ofNat q), .int (Int32.ofNat len)] 7)) (T9.setTop (mkF m 46 #[.val (.ref b), .val (.int (Int32.ofNat (o + len))), .val (.ref d), .val (.int (Int32.ofNat (q + len))), .val (.int (Int32.ofNat len)), .val (.int (Int32.ofNat len)), z9] [.int (Int32.ofNat len)])) := g9.trans (by
    refine XS.iload X9.here hexec rfl (hb hbytes d3) rfl ?_
    refine XS.iload X9.here hexec rfl (hb hbytes d5) rfl ?_
    refine XS.icmpYes X9.here hexec rfl (pc0 := 7) rfl (hb hbytes d7) rfl (ii_ge_t (nlt32 (by omega) (Nat.le_refl _))) (by decide) rfl ?_
    refine XS.iload X9.here hexec rfl (hb hbytes d44) rfl ?_
    exact Steps.refl _)
  exact ⟨T9, some (.int (Int32.ofNat len)), _, _, _, X9, by simp, rfl, rfl, (fun h => by cases h), ⟨rfl, B9, p9.from hh0, f9⟩, fun fs hl => c11.trans (X9.ireturnOut hexec hret rfl (Or.inl rfl) (hb hbytes d46) hl)⟩
end Cmp5
namespace Cmp3
def yN : MethodName := ⟨"java/lang/StringUTF16", "compress", "([CII)[B"⟩
abbrev yB : ByteArray := jdk_52_method_16_code
theorem d0 : decode yB 0 = .ok (.iload_n 2, 1) := by decide +kernel
theorem d1 : decode yB 1 = .ok (.newarray .byte, 2) := by decide +kernel
theorem d3 : decode yB 3 = .ok (.astore_n 3, 1) := by decide +kernel
theorem d4 : decode yB 4 = .ok (.aload_n 0, 1) := by decide +kernel
theorem d5 : decode yB 5 = .ok (.iload_n 1, 1) := by decide +kernel
theorem d6 : decode yB 6 = .ok (.aload_n 3, 1) := by decide +kernel
theorem d7 : decode yB 7 = .ok (.iconst 0, 1) := by decide +kernel
theorem d8 : decode yB 8 = .ok (.iload_n 2, 1) := by decide +kernel
theorem d9 : decode yB 9 = .ok (.invokestatic 115, 3) := by decide +kernel
theorem d12 : decode yB 12 = .ok (.istore 4, 2) := by decide +kernel
theorem d14 : decode yB 14 = .ok (.iload 4, 2) := by decide +kernel
theorem d16 : decode yB 16 = .ok (.iload_n 2, 1) := by decide +kernel
theorem d17 : decode yB 17 = .ok (.if_icmp (.eq) 40, 3) := by decide +kernel
theorem d57 : decode yB 57 = .ok (.aload_n 3, 1) := by decide +kernel
theorem d58 : decode yB 58 = .ok (.areturn, 1) := by decide +kernel
def site : List Cond := [.arrayClass .byte, Cmp5.tab] ++ staticW U16 115 Cmp5.yN
def tab : Cond := tabOf yN yB 6 (some (.array .byte)) site
def P (b : Addr) (A : Cell) (o len : Nat) (args : Array Value) (s : State) : Prop := args = #[.ref b, .int (Int32.ofNat o), .int (Int32.ofNat len)] ∧ Ch b A s ∧ o + len ≤ A.slots.size ∧ len ≤ 536870912 ∧ ∀ i, i < len → ¬ 255 < cv A (o + i)
def E (b : Addr) (A : Cell) (o len : Nat) (r : Option Value) (s u : State) : Prop := NewArr .byte "[B" len (fun j => .int (lo8 (cv A (o + j)))) r s u ∧ u.heap.size = s.heap.size + 1
/-- no char of the range above 255: a new byte[] of their low bytes -/
theorem law (l : Launch) (b : Addr) (A : Cell) (o len : Nat) : Law l yN 3 3 1 18 yB 6 (some (.array .byte)) site (P b A o len) (E b A o len) [] 1 len := by
  refine Law.of_walk (plainFor_of_name (by decide +kernel)) (by decide +kernel) (by decide +kernel) (by decide) (fun _ _ h => by rw [h.1]; rfl) (fun _ U U' hal hh h => ⟨h.1, h.2.1.mv hal hh, h.2.2⟩) (fun r U U' V V' h1 hal h2 h => ⟨NewArr.mv r U U' V V' h1 hal h2 h.1, by rw [h1, h2]; exact h.2⟩) ?_
  intro p e s m args below meth c s₁ X0 hexec hbytes hml hret hlk hnm hown hh0 W hP
  obtain ⟨rfl, hA, l1, l2, hp⟩ := hP
  have a31 := hA.1.2.2.2
  have c1 : Steps p.tables e below (s₁.setTop (entryFrame m #[.ref b, .int (Int32.ofNat o), .int (Int32.ofNat len)] 6)) (s₁.setTop (mkF m 0 #[.val (.ref b), .val (.int (Int32.ofNat o)), .val (.int (Int32.ofNat len)), .unset, .unset, .unset] [])) := entry rfl
  have c2 : Steps p.tables e below (s₁.setTop (entryFrame m #[.ref b, .int (Int32.ofNat o), .int (Int32.ofNat len)] 6)) (s₁.setTop (mkF m 1 #[.val (.ref b), .val (.int (Int32.ofNat o)), .val (.int (Int32.ofNat len)), .unset, .unset, .unset] [.int (Int32.ofNat len)])) := c1.trans (by
    refine XS.iloadN X0.here hexec rfl (hb hbytes d0) rfl ?_
    exact Steps.refl _)
  obtain ⟨T3, B3, X3, ba3, bs3, bv3, bh3, bf3, st3⟩ := X0.anew hexec (atype := .byte) (wk W (.arrayClass .byte)) rfl (by show len * 1 ≤ _; omega) (by omega) (g := (mkF m 1 #[.val (.ref b), .val (.int (Int32.ofNat o)), .val (.int (Int32.ofNat len)), .unset, .unset, .unset] [.int (Int32.ofNat len)])) rfl (hb hbytes d1) (rest := []) rfl (Nat.le_refl _) (by show 0 + len ≤ len; omega)
  rw [hh0] at ba3 st3
  have kp3 : XT.Kept s T3 := (XT.Kept.of_eq hh0).push bh3
  have hA3 := hA.keep X3.warmed.alike (kp3 _ _ hA.1.1)
  have hne : b ≠ s.heap.size := hA.1.ne
  have c4 : Steps p.tables e below (s₁.setTop (entryFrame m #[.ref b, .int (Int32.ofNat o), .int (Int32.ofNat len)] 6)) (T3.setTop (mkF m 3 #[.val (.ref b), .val (.int (Int32.ofNat o)), .val (.int (Int32.ofNat len)), .unset, .unset, .unset] [.ref s.heap.size])) := c2.trans (st3 _ (Steps.refl _))
  have c5 : Steps p.tables e below (s₁.setTop (entryFrame m #[.ref b, .int (Int32.ofNat o), .int (Int32.ofNat len)] 6)) (T3.setTop (mkF m 9 #[.val (.ref b), .val (.int (Int32.ofNat o)), .val (.int (Int32.ofNat len)), .val (.ref s.heap.size), .unset, .unset] [.int (Int32.ofNat len), .int 0, .ref s.heap.size, .int (Int32.ofNat o), .ref b])) := c4.trans (by
    refine XS.astoreN X3.here hexec rfl (hb hbytes d3) rfl rfl rfl ?_
    refine XS.aloadN X3.here hexec rfl (hb hbytes d4) rfl rfl ?_
    refine XS.iloadN X3.here hexec rfl (hb hbytes d5) rfl ?_
    refine XS.aloadN X3.here hexec rfl (hb hbytes d6) rfl rfl ?_
    refine iconstV X3.here hexec rfl 0 (hb hbytes d7) (by decide) ?_
    refine XS.iloadN X3.here hexec rfl (hb hbytes d8) rfl ?_
    exact Steps.refl _)
  obtain ⟨v6, T6, X6, E6, g6⟩ := X3.callS hexec (Cmp5.law l b A s.heap.size B3 o 0 len) hown (wks W (staticW U16 115 Cmp5.yN)) (wk W Cmp5.tab) (W := 0) (Nat.le_of_ble_eq_true rfl) (Nat.le_of_ble_eq_true rfl) (Nat.le_refl _) (by show 0 + len + 0 ≤ len; omega) (g := (mkF m 9 #[.val (.ref b), .val (.int (Int32.ofNat o)), .val (.int (Int32.ofNat len)), .val (.ref s.heap.size), .unset, .unset] [.int (Int32.ofNat len), .int (Int32.ofNat 0), .ref s.heap.size, .int (Int32.ofNat o), .ref b])) rfl (by rw [hml]; rfl) c5 (argsL := [.ref b, .int (Int32.ofNat o), .ref s.heap.size, .int (Int32.ofNat 0), .int (Int32.ofNat len)]) (rest := []) rfl rfl (by show 2 * 0 + 0 ≤ _; decide) (hb hbytes d9) (⟨rfl, hA3, ba3, hne, l1, by rw [bs3]; simp, hp⟩)
  obtain ⟨rfl, B6, p6, f6⟩ := E6
  have c7 : Steps p.tables e below (s₁.setTop (entryFrame m #[.ref b, .int (Int32.ofNat o), .int (Int32.ofNat len)] 6)) (T6.setTop (mkF m 12 #[.val (.ref b), .val (.int (Int32.ofNat o)), .val (.int (Int32.ofNat len)), .val (.ref s.heap.size), .unset, .unset] [.int (Int32.ofNat len)])) := g6
  have c8 : Steps p.tables e below (s₁.setTop (entryFrame m #[.ref b, .int (Int32.ofNat o), .int (Int32.ofNat len)] 6)) (T6.setTop (mkF m 58 #[.val (.ref b), .val (.int (Int32.ofNat o)), .val (.int (Int32.ofNat len)), .val (.ref s.heap.size), .val (.int (Int32.ofNat len)), .unset] [.ref s.heap.size])) := c7.trans (by
    refine XS.istore X6.here hexec rfl (hb hbytes d12) rfl rfl ?_
    refine XS.iload X6.here hexec rfl (hb hbytes d14) rfl ?_
    refine XS.iloadN X6.here hexec rfl (hb hbytes d16) rfl ?_
    refine XS.icmpYes X6.here hexec rfl (pc0 := 17) rfl (hb hbytes d17) rfl (ii_eq_t rfl) (by decide) rfl ?_
    refine XS.aloadN X6.here hexec rfl (hb hbytes d57) rfl rfl ?_
    exact Steps.refl _)
  have X8 := X6.wide (L' := []) (cells' := 1) (slots' := len) (fun x hx hlt => by
    simp only [List.nil_append, copyLocs, List.mem_map, List.mem_range] at hx
    obtain ⟨i, -, rfl⟩ := hx
    exact absurd hlt (Nat.lt_irrefl _)) (Nat.le_refl _) (by omega)
  exact ⟨T6, some (.ref s.heap.size), _, _, _, X8, rfl, rfl, rfl, (fun h => by cases h), ⟨⟨rfl, B6, ba3.like (X3.warmed.alike.symm.trans X6.warmed.alike) p6.1 f6.1 f6.2.1 f6.2.2.1, f6.2.1.trans bv3, by rw [X6.warmed.alike.findClass, f6.1]; exact bf3, by rw [f6.2.2.1, bs3]; simp, fun j hj => by rw [f6.2.2.2 j, if_pos (by omega)]; rfl, kp3.put p6 (Nat.le_refl _)⟩, by rw [p6.2.2, bh3, hh0]; simp⟩, fun fs hl => c8.trans (X8.areturnOut hexec rfl hret rfl (hb hbytes d58) hl)⟩
end Cmp3
namespace CodL
def yN : MethodName := ⟨"java/lang/StringUTF16", "coderFromArrayLen", "([BI)B"⟩
abbrev yB : ByteArray := jdk_52_method_15_code
theorem d0 : decode yB 0 = .ok (.iload_n 1, 1) := by decide +kernel
theorem d1 : decode yB 1 = .ok (.aload_n 0, 1) := by decide +kernel
theorem d2 : decode yB 2 = .ok (.arraylength, 1) := by decide +kernel
theorem d3 : decode yB 3 = .ok (.isub, 1) := by decide +kernel
theorem d4 : decode yB 4 = .ok (.bipush 31, 2) := by decide +kernel
theorem d6 : decode yB 6 = .ok (.iushr, 1) := by decide +kernel
theorem d7 : decode yB 7 = .ok (.i2b, 1) := by decide +kernel
theorem d8 : decode yB 8 = .ok (.ireturn, 1) := by decide +kernel
def site : List Cond := []
def tab : Cond := tabOf yN yB 2 (some .byte) site
def P (d : Addr) (B : Cell) (args : Array Value) (s : State) : Prop := args = #[.ref d, .int (Int32.ofNat B.slots.size)] ∧ Arr .byte d B s
def E (r : Option Value) (s u : State) : Prop := XT.PureE (some (.int 0)) r s u
/-- an array as long as the number of chars: LATIN1 -/
theorem law (l : Launch) (d : Addr) (B : Cell) : Law l yN 2 2 0 0 yB 2 (some .byte) site (P d B) E [] 0 0 := by
  refine Law.of_walk (plainFor_of_name (by decide +kernel)) (by decide +kernel) (by decide +kernel) (by decide) (fun _ _ h => by rw [h.1]; rfl) (fun _ U U' hal hh h => ⟨h.1, h.2.mv hal hh⟩) (fun r U U' V V' h1 hal h2 h => XT.PureE.mv r U U' V V' h1 hal h2 h) ?_
  intro p e s m args below meth c s₁ X0 hexec hbytes hml hret hlk hnm hown hh0 W hP
  obtain ⟨rfl, hB⟩ := hP
  have hB0 := hB.mv X0.warmed.alike hh0
  have c1 : Steps p.tables e below (s₁.setTop (entryFrame m #[.ref d, .int (Int32.ofNat B.slots.size)] 2)) (s₁.setTop (mkF m 0 #[.val (.ref d), .val (.int (Int32.ofNat B.slots.size))] [])) := entry rfl
  have c2 : Steps p.tables e below (s₁.setTop (entryFrame m #[.ref d, .int (Int32.ofNat B.slots.size)] 2)) (s₁.setTop (mkF m 2 #[.val (.ref d), .val (.int (Int32.ofNat B.slots.size))] [.ref d, .int (Int32.ofNat B.slots.size)])) := c1.trans (by
    refine XS.iloadN X0.here hexec rfl (hb hbytes d0) rfl ?_
    refine XS.aloadN X0.here hexec rfl (hb hbytes d1) rfl rfl ?_
    exact Steps.refl _)
  have c3 : Steps p.tables e below (s₁.setTop (entryFrame m #[.ref d, .int (Int32.ofNat B.slots.size)] 2)) (s₁.setTop (mkF m 8 #[.val (.ref d), .val (.int (Int32.ofNat B.slots.size))] [.int (lo8 (ushr (Int32.ofNat B.slots.size - Int32.ofNat B.slots.size) 31))])) := c2.trans (by
    refine X0.alen hexec hB0 rfl rfl (hb hbytes d2) ?_
    refine XS.isub X0.here hexec rfl (hb hbytes d3) rfl ?_
    refine bipushV X0.here hexec rfl 31 (hb hbytes d4) (by decide) ?_
    refine iushr X0.here hexec rfl (hb hbytes d6) rfl ?_
    refine i2b X0.here hexec rfl (hb hbytes d7) rfl ?_
    exact Steps.refl _)
  have e0 : lo8 (ushr (Int32.ofNat B.slots.size - Int32.ofNat B.slots.size) 31) = 0 := by rw [Int32.sub_self]; decide
  rw [e0] at c3
  exact ⟨s₁, some (.int 0), _, _, _, X0, rfl, rfl, rfl, (fun h => by cases h), ⟨rfl, hh0⟩, fun fs hl => c3.trans (X0.ireturnOut hexec hret rfl (Or.inr (Or.inr (Or.inl rfl))) (hb hbytes d8) hl)⟩
end CodL
/-- the String at a is Latin-1 over a new byte[] (the heap's one new cell): the low bytes of the len chars of A from o on; every cell but a is kept -/
def Got (a : Addr) (D : Cell) (fV fC : Field) (A : Cell) (o len : Nat) (r : Option Value) (s u : State) : Prop := r = none ∧ ∃ D' V : Cell, Blank "java/lang/String" a D' u ∧ Same D D' [fV.slot, fC.slot] ∧ D'.slots[fV.slot]? = some (.ref s.heap.size) ∧ D'.slots[fC.slot]? = some (.int 0) ∧ Arr .byte s.heap.size V u ∧ V.vm = .none ∧ u.vm.findClass "[B" = some V.cls ∧ V.slots.size = len ∧ (∀ j, j < len → V.slots[j]? = some (.int (lo8 (cv A (o + j))))) ∧ (∀ (y : Addr) (c : Cell), y ≠ a → s.heap[y]? = some c → u.heap[y]? = some c) ∧ u.heap.size = s.heap.size + 1
theorem Got.mv {a : Addr} {D A : Cell} {fV fC : Field} {o len : Nat} : ∀ r (U U' V V' : State), U'.heap = U.heap → V.vm.Alike V'.vm → V'.heap = V.heap → Got a D fV fC A o len r U V → Got a D fV fC A o len r U' V' :=
  fun r U U' V V' h1 hal h2 ⟨e0, D', X, a1, a2, a3, a4, a5, a6, a7, a8, a9, a10, a11⟩ => ⟨e0, D', X, a1.mv hal h2, a2, by rw [h1]; exact a3, a4, by rw [h1]; exact a5.mv hal h2, a6, by rw [hal.findClass]; exact a7, a8, a9, by rw [h1, h2]; exact a10, by rw [h1, h2]; exact a11⟩
namespace New4
def yN : MethodName := ⟨"java/lang/String", "<init>", "([CIILjava/lang/Void;)V"⟩
abbrev yB : ByteArray := jdk_42_method_149_code
theorem d0 : decode yB 0 = .ok (.aload_n 0, 1) := by decide +kernel
theorem d1 : decode yB 1 = .ok (.invokespecial 1, 3) := by decide +kernel
theorem d4 : decode yB 4 = .ok (.iload_n 3, 1) := by decide +kernel
theorem d5 : decode yB 5 = .ok (.ifCond (.ne) 22, 3) := by decide +kernel
theorem d27 : decode yB 27 = .ok (.getstatic 38, 3) := by decide +kernel
theorem d30 : decode yB 30 = .ok (.ifCond (.eq) 28, 3) := by decide +kernel
theorem d33 : decode yB 33 = .ok (.aload_n 1, 1) := by decide +kernel
theorem d34 : decode yB 34 = .ok (.iload_n 2, 1) := by decide +kernel
theorem d35 : decode yB 35 = .ok (.iload_n 3, 1) := by decide +kernel
theorem d36 : decode yB 36 = .ok (.invokestatic 177, 3) := by decide +kernel
theorem d39 : decode yB 39 = .ok (.astore 5, 2) := by decide +kernel
theorem d41 : decode yB 41 = .ok (.aload_n 0, 1) := by decide +kernel
theorem d42 : decode yB 42 = .ok (.aload 5, 2) := by decide +kernel
theorem d44 : decode yB 44 = .ok (.iload_n 3, 1) := by decide +kernel
theorem d45 : decode yB 45 = .ok (.invokestatic 47, 3) := by decide +kernel
theorem d48 : decode yB 48 = .ok (.putfield 15, 3) := by decide +kernel
theorem d51 : decode yB 51 = .ok (.aload_n 0, 1) := by decide +kernel
theorem d52 : decode yB 52 = .ok (.aload 5, 2) := by decide +kernel
theorem d54 : decode yB 54 = .ok (.putfield 9, 3) := by decide +kernel
theorem d57 : decode yB 57 = .ok (.return_, 1) := by decide +kernel
def site : List Cond := [.fieldLink "java/lang/String" 38 "java/lang/String" "COMPACT_STRINGS" "Z", Cmp3.tab, CodL.tab, .laysFinal "java/lang/String" "java/lang/String" "value" "[B", .fieldLink "java/lang/String" 9 "java/lang/String" "value" "[B", .laysFinal "java/lang/String" "java/lang/String" "coder" "B", .fieldLink "java/lang/String" 15 "java/lang/String" "coder" "B"] ++ objW "java/lang/String" 1 ++ staticW "java/lang/String" 177 Cmp3.yN ++ staticW "java/lang/String" 47 CodL.yN
def tab : Cond := tabOf yN yB 6 none site
def P (a : Addr) (D : Cell) (fV fC : Field) (b : Addr) (A : Cell) (z : Int32) (o len : Nat) (args : Array Value) (s : State) : Prop := args = #[.ref a, .ref b, .int (Int32.ofNat o), .int (Int32.ofNat len), .null] ∧ Blank "java/lang/String" a D s ∧ Found "java/lang/String" "value" "[B" fV s ∧ Found "java/lang/String" "coder" "B" fC s ∧ Ch b A s ∧ StaticIs s "java/lang/String" "COMPACT_STRINGS" "Z" (.int z) ∧ ¬ z = 0 ∧ 0 < len ∧ o + len ≤ A.slots.size ∧ len ≤ 536870912 ∧ ∀ i, i < len → ¬ 255 < cv A (o + i)
def E (a : Addr) (D : Cell) (fV fC : Field) (A : Cell) (o len : Nat) (r : Option Value) (s u : State) : Prop := Got a D fV fC A o len r s u
/-- len > 0, no char of the range above 255: a Latin-1 String of their low bytes -/
theorem law (l : Launch) (a : Addr) (D : Cell) (fV fC : Field) (b : Addr) (A : Cell) (z : Int32) (o len : Nat) : Law l yN 5 4 2 35 yB 6 none site (P a D fV fC b A z o len) (E a D fV fC A o len) [⟨a, fC.slot⟩, ⟨a, fV.slot⟩] 1 len := by
  refine Law.of_walk (plainFor_of_name (by decide +kernel)) (by decide +kernel) (by decide +kernel) (by decide) (fun _ _ h => by rw [h.1]; rfl) (fun _ U U' hal hh h => ⟨h.1, h.2.1.mv hal hh, h.2.2.1.al hal, h.2.2.2.1.al hal, h.2.2.2.2.1.mv hal hh, h.2.2.2.2.2.1.there hal hh, h.2.2.2.2.2.2⟩) (fun r U U' V V' h1 hal h2 h => Got.mv r U U' V V' h1 hal h2 h) ?_
  intro p e s m args below meth c s₁ X0 hexec hbytes hml hret hlk hnm hown hh0 W hP
  obtain ⟨rfl, hB, f1, f2, hA, s1, hz, l0, l1, l2, hp⟩ := hP
  have a31 := hA.1.2.2.2
  have c1 : Steps p.tables e below (s₁.setTop (entryFrame m #[.ref a, .ref b, .int (Int32.ofNat o), .int (Int32.ofNat len), .null] 6)) (s₁.setTop (mkF m 0 #[.val (.ref a), .val (.ref b), .val (.int (Int32.ofNat o)), .val (.int (Int32.ofNat len)), .val .null, .unset] [])) := entry rfl
  have c2 : Steps p.tables e below (s₁.setTop (entryFrame m #[.ref a, .ref b, .int (Int32.ofNat o), .int (Int32.ofNat len), .null] 6)) (s₁.setTop (mkF m 1 #[.val (.ref a), .val (.ref b), .val (.int (Int32.ofNat o)), .val (.int (Int32.ofNat len)), .val .null, .unset] [.ref a])) := c1.trans (by
    refine XS.aloadN X0.here hexec rfl (hb hbytes d0) rfl rfl ?_
    exact Steps.refl _)
  obtain ⟨T3, X3, q3, st3⟩ := X0.oinit hexec hown (wks W (objW "java/lang/String" 1)) (g := (mkF m 1 #[.val (.ref a), .val (.ref b), .val (.int (Int32.ofNat o)), .val (.int (Int32.ofNat len)), .val .null, .unset] [.ref a])) rfl (by rw [hml]; rfl) (rest := []) rfl (hb hbytes d1) (W := 0) (by show 2 * 0 + 0 ≤ _; decide) (Nat.le_of_ble_eq_true rfl) (Nat.le_of_ble_eq_true rfl)
  have hh3 := q3.trans hh0
  have c4 : Steps p.tables e below (s₁.setTop (entryFrame m #[.ref a, .ref b, .int (Int32.ofNat o), .int (Int32.ofNat len), .null] 6)) (T3.setTop (mkF m 27 #[.val (.ref a), .val (.ref b), .val (.int (Int32.ofNat o)), .val (.int (Int32.ofNat len)), .val .null, .unset] [])) := (c2.trans (st3 _ (Steps.refl _))).trans (by
    refine XS.iloadN X3.here hexec rfl (hb hbytes d4) rfl ?_
    refine XS.ifYes X3.here hexec rfl (pc0 := 5) rfl (hb hbytes d5) rfl (i0_ne_t (nz32 (by omega) l0)) (by decide) rfl ?_
    exact Steps.refl _)
  obtain ⟨T5, X5, q5, st5⟩ := X3.sget hexec hown (wk W (.fieldLink "java/lang/String" 38 "java/lang/String" "COMPACT_STRINGS" "Z")) s1 (fun _ _ h => by rw [hh3]; exact h) (g := (mkF m 27 #[.val (.ref a), .val (.ref b), .val (.int (Int32.ofNat o)), .val (.int (Int32.ofNat len)), .val .null, .unset] [])) rfl (hb hbytes d27)
  have hh5 := q5.trans hh3
  have c6 : Steps p.tables e below (s₁.setTop (entryFrame m #[.ref a, .ref b, .int (Int32.ofNat o), .int (Int32.ofNat len), .null] 6)) (T5.setTop (mkF m 30 #[.val (.ref a), .val (.ref b), .val (.int (Int32.ofNat o)), .val (.int (Int32.ofNat len)), .val .null, .unset] [.int z])) := c4.trans (st5 _ (Steps.refl _))
  have c7 : Steps p.tables e below (s₁.setTop (entryFrame m #[.ref a, .ref b, .int (Int32.ofNat o), .int (Int32.ofNat len), .null] 6)) (T5.setTop (mkF m 36 #[.val (.ref a), .val (.ref b), .val (.int (Int32.ofNat o)), .val (.int (Int32.ofNat len)), .val .null, .unset] [.int (Int32.ofNat len), .int (Int32.ofNat o), .ref b])) := c6.trans (by
    refine XS.ifNo X5.here hexec rfl (hb hbytes d30) rfl (i0_eq_f hz) ?_
    refine XS.aloadN X5.here hexec rfl (hb hbytes d33) rfl rfl ?_
    refine XS.iloadN X5.here hexec rfl (hb hbytes d34) rfl ?_
    refine XS.iloadN X5.here hexec rfl (hb hbytes d35) rfl ?_
    exact Steps.refl _)
  obtain ⟨v8, T8, X8, E8, g8⟩ := X5.callS hexec (Cmp3.law l b A o len) hown (wks W (staticW "java/lang/String" 177 Cmp3.yN)) (wk W Cmp3.tab) (W := 0) (Nat.le_of_ble_eq_true rfl) (Nat.le_of_ble_eq_true rfl) (Nat.le_refl _) (by show 0 + len ≤ len; omega) (g := (mkF m 36 #[.val (.ref a), .val (.ref b), .val (.int (Int32.ofNat o)), .val (.int (Int32.ofNat len)), .val .null, .unset] [.int (Int32.ofNat len), .int (Int32.ofNat o), .ref b])) rfl (by rw [hml]; rfl) c7 (argsL := [.ref b, .int (Int32.ofNat o), .int (Int32.ofNat len)]) (rest := []) rfl rfl (by show 2 * 0 + 0 ≤ _; decide) (hb hbytes d36) (⟨rfl, hA.mv X5.warmed.alike hh5, l1, l2, hp⟩)
  obtain ⟨e8, z8⟩ := E8
  obtain ⟨rfl, N, n1, n2, n3, n4, n5, n6⟩ := NewArr.mv _ T5 s _ _ hh5.symm (Vm.Alike.refl _) rfl e8
  rw [hh5] at z8
  have hB1 := hB.keep X8.warmed.alike (n6 _ _ hB.1)
  have hne : s.heap.size ≠ a := (Nat.ne_of_lt (Array.getElem?_eq_some_iff.mp hB.1).1).symm
  have c9 : Steps p.tables e below (s₁.setTop (entryFrame m #[.ref a, .ref b, .int (Int32.ofNat o), .int (Int32.ofNat len), .null] 6)) (T8.setTop (mkF m 39 #[.val (.ref a), .val (.ref b), .val (.int (Int32.ofNat o)), .val (.int (Int32.ofNat len)), .val .null, .unset] [.ref s.heap.size])) := g8
  have c10 : Steps p.tables e below (s₁.setTop (entryFrame m #[.ref a, .ref b, .int (Int32.ofNat o), .int (Int32.ofNat len), .null] 6)) (T8.setTop (mkF m 45 #[.val (.ref a), .val (.ref b), .val (.int (Int32.ofNat o)), .val (.int (Int32.ofNat len)), .val .null, .val (.ref s.heap.size)] [.int (Int32.ofNat N.slots.size), .ref s.heap.size, .ref a])) := by
    have hc : Steps p.tables e below (s₁.setTop (entryFrame m #[.ref a, .ref b, .int (Int32.ofNat o), .int (Int32.ofNat len), .null] 6)) (T8.setTop (mkF m 45 #[.val (.ref a), .val (.ref b), .val (.int (Int32.ofNat o)), .val (.int (Int32.ofNat len)), .val .null, .val (.ref s.heap.size)] [.int (Int32.ofNat len), .ref s.heap.size, .ref a])) := c9.trans (by
      refine XS.astore X8.here hexec rfl (hb hbytes d39) rfl rfl rfl ?_
      refine XS.aloadN X8.here hexec rfl (hb hbytes d41) rfl rfl ?_
      refine XS.aload X8.here hexec rfl (hb hbytes d42) rfl rfl ?_
      refine XS.iloadN X8.here hexec rfl (hb hbytes d44) rfl ?_
      exact Steps.refl _)
    rw [n4]; exact hc
  obtain ⟨v11, T11, X11, E11, g11⟩ := X8.callS hexec (CodL.law l s.heap.size N) hown (wks W (staticW "java/lang/String" 47 CodL.yN)) (wk W CodL.tab) (W := 1) (Nat.le_of_ble_eq_true rfl) (Nat.le_of_ble_eq_true rfl) (Nat.le_refl _) (by show 0 + len + 0 ≤ len; omega) (g := (mkF m 45 #[.val (.ref a), .val (.ref b), .val (.int (Int32.ofNat o)), .val (.int (Int32.ofNat len)), .val .null, .val (.ref s.heap.size)] [.int (Int32.ofNat N.slots.size), .ref s.heap.size, .ref a])) rfl (by rw [hml]; rfl) c10 (argsL := [.ref s.heap.size, .int (Int32.ofNat N.slots.size)]) (rest := [.ref a]) rfl rfl (by show 2 * 0 + (1 + 0) ≤ _; decide) (hb hbytes d45) (⟨rfl, n1⟩)
  obtain ⟨rfl, q11⟩ := E11
  have hB11 := hB1.mv (X8.warmed.alike.symm.trans X11.warmed.alike) q11
  have c12 : Steps p.tables e below (s₁.setTop (entryFrame m #[.ref a, .ref b, .int (Int32.ofNat o), .int (Int32.ofNat len), .null] 6)) (T11.setTop (mkF m 48 #[.val (.ref a), .val (.ref b), .val (.int (Int32.ofNat o)), .val (.int (Int32.ofNat len)), .val .null, .val (.ref s.heap.size)] [.int 0, .ref a])) := g11
  obtain ⟨T13, X13, p13, bl13, sl13, st13⟩ := X11.finit hexec hown (wk W (.fieldLink "java/lang/String" 15 "java/lang/String" "coder" "B")) (Or.inr ⟨_, (wk W (.laysFinal "java/lang/String" "java/lang/String" "coder" "B"))⟩) (Or.inl ⟨rfl, hnm⟩) f2 (Or.inl rfl) hB11 (t := .byte) (by decide +kernel) rfl (g := (mkF m 48 #[.val (.ref a), .val (.ref b), .val (.int (Int32.ofNat o)), .val (.int (Int32.ofNat len)), .val .null, .val (.ref s.heap.size)] [.int 0, .ref a])) rfl (rest := []) rfl (hb hbytes d48)
  have c14 : Steps p.tables e below (s₁.setTop (entryFrame m #[.ref a, .ref b, .int (Int32.ofNat o), .int (Int32.ofNat len), .null] 6)) (T13.setTop (mkF m 54 #[.val (.ref a), .val (.ref b), .val (.int (Int32.ofNat o)), .val (.int (Int32.ofNat len)), .val .null, .val (.ref s.heap.size)] [.ref s.heap.size, .ref a])) := (c12.trans (st13 _ (Steps.refl _))).trans (by
    refine XS.aloadN X13.here hexec rfl (hb hbytes d51) rfl rfl ?_
    refine XS.aload X13.here hexec rfl (hb hbytes d52) rfl rfl ?_
    exact Steps.refl _)
  obtain ⟨T15, X15, p15, bl15, sl15, st15⟩ := X13.finit hexec hown (wk W (.fieldLink "java/lang/String" 9 "java/lang/String" "value" "[B")) (Or.inr ⟨_, (wk W (.laysFinal "java/lang/String" "java/lang/String" "value" "[B"))⟩) (Or.inl ⟨rfl, hnm⟩) f1 (Or.inl rfl) bl13 (t := (.array .byte)) (by decide +kernel) rfl (g := (mkF m 54 #[.val (.ref a), .val (.ref b), .val (.int (Int32.ofNat o)), .val (.int (Int32.ofNat len)), .val .null, .val (.ref s.heap.size)] [.ref s.heap.size, .ref a])) rfl (rest := []) rfl (hb hbytes d54)
  have c16 : Steps p.tables e below (s₁.setTop (entryFrame m #[.ref a, .ref b, .int (Int32.ofNat o), .int (Int32.ofNat len), .null] 6)) (T15.setTop (mkF m 57 #[.val (.ref a), .val (.ref b), .val (.int (Int32.ofNat o)), .val (.int (Int32.ofNat len)), .val .null, .val (.ref s.heap.size)] [])) := c14.trans (st15 _ (Steps.refl _))
  have ap := apart (Or.inr ⟨_, (wk W (.laysFinal "java/lang/String" "java/lang/String" "value" "[B"))⟩) (Or.inr ⟨_, (wk W (.laysFinal "java/lang/String" "java/lang/String" "coder" "B"))⟩) f1 f2 (t₁ := .array .byte) (t₂ := .byte) (by decide +kernel) (by decide +kernel) (by decide)
  have al := X8.warmed.alike.symm.trans X15.warmed.alike
  have n7 : T11.heap[s.heap.size]? = some N := by rw [q11]; exact n1.1
  exact ⟨T15, none, _, _, _, X15, by simp, rfl, by omega, (fun _ => rfl), ⟨rfl, _, N, bl15, ((Same.refl D _).set _ (by simp)).set _ (by simp), sl15, (Cell.slots_setSlot_ne _ ap).trans sl13, n1.keep al (p15.other hne (p13.other hne n7)), n2, by rw [al.findClass]; exact n3, n4, n5, fun y c h1 h2 => p15.other h1 (p13.other h1 (by rw [q11]; exact n6 y c h2)), by rw [p15.2.2, p13.2.2, q11]; exact z8⟩, fun fs hl => c16.trans (X15.returnOut hexec hret (hb hbytes d57) hl)⟩
end New4
namespace New1
def yN : MethodName := ⟨"java/lang/String", "<init>", "([C)V"⟩
abbrev yB : ByteArray := jdk_42_method_3_code
theorem d0 : decode yB 0 = .ok (.aload_n 0, 1) := by decide +kernel
theorem d1 : decode yB 1 = .ok (.aload_n 1, 1) := by decide +kernel
theorem d2 : decode yB 2 = .ok (.iconst 0, 1) := by decide +kernel
theorem d3 : decode yB 3 = .ok (.aload_n 1, 1) := by decide +kernel
theorem d4 : decode yB 4 = .ok (.arraylength, 1) := by decide +kernel
theorem d5 : decode yB 5 = .ok (.aconst_null, 1) := by decide +kernel
theorem d6 : decode yB 6 = .ok (.invokespecial 27, 3) := by decide +kernel
theorem d9 : decode yB 9 = .ok (.return_, 1) := by decide +kernel
def site : List Cond := [New4.tab] ++ initW "java/lang/String" 27 New4.yN
def tab : Cond := tabOf yN yB 2 none site
def P (a : Addr) (D : Cell) (fV fC : Field) (b : Addr) (A : Cell) (z : Int32) (args : Array Value) (s : State) : Prop := args = #[.ref a, .ref b] ∧ Blank "java/lang/String" a D s ∧ Found "java/lang/String" "value" "[B" fV s ∧ Found "java/lang/String" "coder" "B" fC s ∧ Ch b A s ∧ StaticIs s "java/lang/String" "COMPACT_STRINGS" "Z" (.int z) ∧ ¬ z = 0 ∧ 0 < A.slots.size ∧ A.slots.size ≤ 536870912 ∧ ∀ i, i < A.slots.size → ¬ 255 < cv A i
def E (a : Addr) (D : Cell) (fV fC : Field) (A : Cell) (r : Option Value) (s u : State) : Prop := Got a D fV fC A 0 A.slots.size r s u
/-- new String(chars), not empty, no char above 255: a Latin-1 String of their low bytes -/
theorem law (l : Launch) (a : Addr) (D : Cell) (fV fC : Field) (b : Addr) (A : Cell) (z : Int32) : Law l yN 2 1 3 52 yB 2 none site (P a D fV fC b A z) (E a D fV fC A) [⟨a, fC.slot⟩, ⟨a, fV.slot⟩] 1 A.slots.size := by
  refine Law.of_walk (plainFor_of_name (by decide +kernel)) (by decide +kernel) (by decide +kernel) (by decide) (fun _ _ h => by rw [h.1]; rfl) (fun _ U U' hal hh h => ⟨h.1, h.2.1.mv hal hh, h.2.2.1.al hal, h.2.2.2.1.al hal, h.2.2.2.2.1.mv hal hh, h.2.2.2.2.2.1.there hal hh, h.2.2.2.2.2.2⟩) (fun r U U' V V' h1 hal h2 h => Got.mv r U U' V V' h1 hal h2 h) ?_
  intro p e s m args below meth c s₁ X0 hexec hbytes hml hret hlk hnm hown hh0 W hP
  obtain ⟨rfl, hB, f1, f2, hA, s1, hz, l0, l2, hp⟩ := hP
  have c1 : Steps p.tables e below (s₁.setTop (entryFrame m #[.ref a, .ref b] 2)) (s₁.setTop (mkF m 0 #[.val (.ref a), .val (.ref b)] [])) := entry rfl
  have c2 : Steps p.tables e below (s₁.setTop (entryFrame m #[.ref a, .ref b] 2)) (s₁.setTop (mkF m 6 #[.val (.ref a), .val (.ref b)] [.null, .int (Int32.ofNat A.slots.size), .int 0, .ref b, .ref a])) := c1.trans (by
    refine XS.aloadN X0.here hexec rfl (hb hbytes d0) rfl rfl ?_
    refine XS.aloadN X0.here hexec rfl (hb hbytes d1) rfl rfl ?_
    refine iconstV X0.here hexec rfl 0 (hb hbytes d2) (by decide) ?_
    refine XS.aloadN X0.here hexec rfl (hb hbytes d3) rfl rfl ?_
    refine X0.alen hexec (hA.1.mv X0.warmed.alike hh0) rfl rfl (hb hbytes d4) ?_
    refine XS.aconstNull X0.here hexec rfl (hb hbytes d5) ?_
    exact Steps.refl _)
  obtain ⟨v3, T3, X3, E3, g3⟩ := X0.callN hexec (New4.law l a D fV fC b A z 0 A.slots.size) rfl hown (wks W (initW "java/lang/String" 27 New4.yN)) (W New4.tab (by simp only [site, List.mem_cons, List.mem_append, true_or, or_true])) (W := 0) (Nat.le_of_ble_eq_true rfl) (Nat.le_of_ble_eq_true rfl) (Nat.le_refl _) (by show 0 + A.slots.size ≤ A.slots.size; omega) (g := (mkF m 6 #[.val (.ref a), .val (.ref b)] [.null, .int (Int32.ofNat A.slots.size), .int (Int32.ofNat 0), .ref b, .ref a])) rfl (by rw [hml]; rfl) c2 (argsL := [.ref b, .int (Int32.ofNat 0), .int (Int32.ofNat A.slots.size), .null]) (rest := []) rfl rfl (by show 2 * 0 + 0 ≤ _; decide) (hb hbytes d6) (⟨rfl, hB.mv X0.warmed.alike hh0, f1.al X0.warmed.alike, f2.al X0.warmed.alike, hA.mv X0.warmed.alike hh0, s1.there X0.warmed.alike hh0, hz, l0, by omega, l2, fun i hi => by rw [Nat.zero_add]; exact hp i hi⟩)
  have e0 := Got.mv _ s₁ s _ _ hh0.symm (Vm.Alike.refl _) rfl E3
  obtain rfl := e0.1
  have c4 : Steps p.tables e below (s₁.setTop (entryFrame m #[.ref a, .ref b] 2)) (T3.setTop (mkF m 9 #[.val (.ref a), .val (.ref b)] [])) := g3
  exact ⟨T3, none, _, _, _, X3, by simp, rfl, by omega, (fun _ => rfl), e0, fun fs hl => c4.trans (X3.returnOut hexec hret (hb hbytes d9) hl)⟩
theorem pays {l : Launch} {R : Room} {p : Program} {e : Env} {below : List Frame} {s : State} {sargs : Array Value} {len W : Nat} (a : Addr) (D : Cell) (fV fC : Field) (b : Addr) (A : Cell) (z : Int32) (htab : tab.before sargs s = true) (hfr : 4 ≤ R.frames) (hlo : W + 65 ≤ R.locals) :
    Back l R p e below s sargs yN len W (fun A₁ a₁ => A₁.cells + 1 ≤ R.cells ∧ A₁.slots + A.slots.size ≤ R.slots ∧ P a D fV fC b A z a₁ A₁.U) (fun A₁ _ v₁ B₁ => E a D fV fC A v₁ A₁.U B₁.U ∧ B₁.locs = A₁.locs ++ [⟨a, fC.slot⟩, ⟨a, fV.slot⟩] ∧ B₁.cells = A₁.cells + 1 ∧ B₁.slots = A₁.slots + A.slots.size) :=
  (law l a D fV fC b A z).pays htab hfr (by omega)
end New1
end StrChars
namespace StrChars.Road
open Jvm Sem ClassFile Op Lib Jvm.Stand Jvm.Free Jvm.Free.XT
open Jvm.Lib.Cold (StaticIs)
abbrev ST : String := "java/lang/String"
/-- every table word that New1's law asks, flat -/
abbrev words : List Jvm.Cond := [.code New1.yN New1.yB 2 none, .initialized ST, .methodLink ST 27 New4.yN, .instanceMethod New4.yN,
  .code New4.yN New4.yB 6 none, .fieldLink ST 38 ST "COMPACT_STRINGS" "Z", .laysFinal ST ST "value" "[B", .fieldLink ST 9 ST "value" "[B", .laysFinal ST ST "coder" "B", .fieldLink ST 15 ST "coder" "B",
  .methodLink ST 1 Lib.objectInit, .instanceMethod Lib.objectInit, .code Lib.objectInit ⟨#[0xb1]⟩ 1 none, .methodLink ST 177 Cmp3.yN, .static Cmp3.yN, .methodLink ST 47 CodL.yN, .static CodL.yN,
  .code Cmp3.yN Cmp3.yB 6 (some (.array .byte)), .initialized U16, .arrayClass .byte, .methodLink U16 115 Cmp5.yN, .static Cmp5.yN, .code Cmp5.yN Cmp5.yB 7 (some .int), .code CodL.yN CodL.yB 2 (some .byte)]
theorem tab_of {a : Array Value} {s : State} (h : ∀ w ∈ words, w.before a s = true) : New1.tab.before a s = true := by
  have h5 : Cmp5.tab.before a s = true := unparts (wk h (.code Cmp5.yN Cmp5.yB 7 (some .int))) (wks h (.initialized Cmp5.yN.cls :: Cmp5.site))
  have hc : CodL.tab.before a s = true := unparts (wk h (.code CodL.yN CodL.yB 2 (some .byte))) (wks h (.initialized CodL.yN.cls :: CodL.site))
  have q5 : ∀ w ∈ Cmp5.tab :: words, w.before a s = true := fun w hw => (List.mem_cons.mp hw).elim (fun e => e ▸ h5) (h w)
  have h3 : Cmp3.tab.before a s = true := unparts (wk q5 (.code Cmp3.yN Cmp3.yB 6 (some (.array .byte)))) (wks q5 (.initialized Cmp3.yN.cls :: Cmp3.site))
  have q3 : ∀ w ∈ Cmp3.tab :: CodL.tab :: words, w.before a s = true := fun w hw => (List.mem_cons.mp hw).elim (fun e => e ▸ h3) fun hw => (List.mem_cons.mp hw).elim (fun e => e ▸ hc) (h w)
  have h4 : New4.tab.before a s = true := unparts (wk q3 (.code New4.yN New4.yB 6 none)) (wks q3 (.initialized New4.yN.cls :: New4.site))
  have q4 : ∀ w ∈ New4.tab :: words, w.before a s = true := fun w hw => (List.mem_cons.mp hw).elim (fun e => e ▸ h4) (h w)
  exact unparts (wk q4 (.code New1.yN New1.yB 2 none)) (wks q4 (.initialized New1.yN.cls :: New1.site))
/-- the words ride from the start Z to the walk's own state -/
theorem moved {Z s : State} {a0 args : Array Value} (hZ : Z.Warmed39 s.vm) (hw : ∀ d ∈ words, d.before a0 Z = true) : ∀ d ∈ words, d.before args s = true := fun d hd => by
  have q := hw d hd
  have t : ∀ d ∈ words, d = .arrayClass .byte ∨ (d.onTables && d.keepsFace) = true := by decide +kernel
  rcases t d hd with rfl | t
  · exact RoadKit.mvA hZ q
  · exact RoadKit.mv hZ q t
/-- WHAT COMES BACK, over the tables of the start Z: h the heap at the call, h' behind it -/
def Q (Z : State) (x : Addr) (A : Cell) (h : Heap) (v : Option Value) (h' : Heap) (L : List Loc) : Prop := v = none ∧ (∀ y ∈ L, y.base = x) ∧ RoadKit.Keep h h' [x] ∧ h'.size = h.size + 1 ∧ RoadKit.Exa Z h' x ST ∧ RoadKit.Fld Z h' x ST "value" "[B" (.ref h.size) ∧ RoadKit.Fld Z h' x ST "coder" "B" (.int 0) ∧
  (∃ V : Cell, RoadKit.Arr Z h' h.size V .byte ∧ V.vm = .none ∧ Z.vm.findClass "[B" = some V.cls ∧ V.slots.size = A.slots.size ∧ ∀ j, j < A.slots.size → V.slots[j]? = some (.int (lo8 (cv A j)))) ∧
  ∀ (O n d : String) (w : Value), RoadKit.Fld Z h x O n d w → RoadKit.slotOf Z O n d ≠ RoadKit.slotOf Z ST "value" "[B" → RoadKit.slotOf Z O n d ≠ RoadKit.slotOf Z ST "coder" "B" → RoadKit.Fld Z h' x O n d w
/-- **new String(chars) AT A CALL, IN THE ROAD'S FORM**: for specialBack behind newO: x the fresh String, b the char[] with the cell A -/
theorem back {p : Program} {l : Launch} {e : Env} {R : Room} {s : State} {args : Array Value} {below : List Frame} {len W : Nat} {Z : State} {a0 : Array Value} {h : Heap} (hZ : Z.Warmed39 s.vm) (hw : ∀ d ∈ words, d.before a0 Z = true) {kI : Nat} (wi : (Jvm.Cond.instantiable ST kI).before a0 Z = true)
    {x b : Addr} {A : Cell} {z : Int32} {v0 c0 : Value} (E : RoadKit.Exa Z h x ST) (V : RoadKit.Fld Z h x ST "value" "[B" v0) (C : RoadKit.Fld Z h x ST "coder" "B" c0) (K : RoadKit.Arr Z h b A .char) (hty : Typed .char A) (S : RoadKit.Sta Z h ST "COMPACT_STRINGS" "Z" (.int z)) (hz : ¬ z = 0)
    (l0 : 0 < A.slots.size) (l2 : A.slots.size ≤ 536870912) (hp : ∀ i, i < A.slots.size → ¬ 255 < cv A i) (hfr : 4 ≤ R.frames) (hlo : W + 65 ≤ R.locals) :
    Back l R p e below s args New1.yN len W (fun P a => a = #[.ref x, .ref b] ∧ P.U.heap = h ∧ P.cells + 1 ≤ R.cells ∧ P.slots + A.slots.size ≤ R.slots)
      (fun P _ v B => ∃ L, Q Z x A h v B.U.heap L ∧ B.locs = P.locs ++ L ∧ B.cells = P.cells + 1 ∧ B.slots = P.slots + A.slots.size) := by
  intro m meth c P g ig mk a X hg hsize hdg hW hn hp'
  obtain ⟨rfl, rfl, r1, r2⟩ := hp'
  have al : Z.vm.Alike P.U.vm := hZ.alike.trans X.warmed.alike
  obtain ⟨D, cfV, kV, iV, fV, hD, gV, stV, knV, obV, asV, slV⟩ := id V
  obtain ⟨D', cfC, kC, iC, fC, hD', gC, stC, -, -, asC, slC⟩ := id C
  cases hD.symm.trans hD'
  obtain ⟨D2, kD, e1, e2, e3, e4, e5⟩ := id E
  cases hD.symm.trans e1
  obtain ⟨c2, k2, i1, i2, i3, -⟩ := Cond.instantiable_spec wi
  cases e2.symm.trans i1
  cases e3.symm.trans i2
  obtain ⟨kU, u1, u2⟩ := al.2.2 _ _ e3
  have hB : Blank ST x D P.U := ⟨hD, ⟨knV, fun q hq => by rw [hq] at obV; cases obV⟩, by rw [al.findClass]; exact e2, kU, u1, by rw [u2]; exact i3, by rw [u2]; exact e5 i3⟩
  have F1 : Found ST "value" "[B" fV P.U := ⟨SBG.found_only al ⟨cfV, kV, iV, gV⟩, stV⟩
  have F2 : Found ST "coder" "B" fC P.U := ⟨SBG.found_only al ⟨cfC, kC, iC, gC⟩, stC⟩
  have hA : Ch b A P.U := ⟨⟨K.1, State.isArrayOf_alike al K.2.1, K.2.2, by omega⟩, hty⟩
  have hS : StaticIs P.U ST "COMPACT_STRINGS" "Z" (.int z) := by
    obtain ⟨cfS, iS, kS, fS, st, cS, t1, t2, t3, t4, t5, t6, t7⟩ := S
    exact StaticIs.there (s := { Z with heap := P.U.heap }) ⟨cfS, iS, kS, fS, st, cS, t1, t2, t3, t4, t5, (fun q => by rw [q] at t6; cases t6), t7⟩ al rfl
  obtain ⟨v, B, X', ⟨⟨hv, E', V', q1, q2, q3, q4, q5, q6, q7, q8, q9, q10, q11⟩, hl, hc, hs⟩, st⟩ := New1.pays x D fV fC b A z (tab_of (moved hZ hw)) hfr hlo m meth c P g ig mk _ X hg hsize hdg hW hn ⟨r1, r2, rfl, hB, F1, F2, hA, hS, hz, l0, l2, hp⟩
  have al' : Z.vm.Alike B.U.vm := hZ.alike.trans X'.warmed.alike
  have hsz : E'.slots.size = D.slots.size := by
    obtain ⟨-, -, -, kB, w1, w2, w3⟩ := q1
    obtain ⟨kB', y1, y2⟩ := al'.2.2 _ _ e3
    rw [q2.2.1] at w1
    cases w1.symm.trans y1
    rw [w3, e5 i3, y2]
  refine ⟨v, B, X', ⟨_, ⟨hv, ?_, ⟨by omega, fun y cy hy hn' => q10 y cy (by simpa using hn') hy, fun y cy hy => ?_⟩, q11, ⟨E', _, q1.1, by rw [q2.2.1]; exact e2, by rw [q2.2.1]; exact e3, by rw [q2.1]; exact obV, fun _ => by rw [hsz]; exact e5 i3⟩,
    ⟨E', cfV, kV, iV, fV, q1.1, gV, stV, by rw [q2.1]; exact knV, by rw [q2.1]; exact obV, by rw [q2.2.1]; exact asV, q3⟩, ⟨E', cfC, kC, iC, fC, q1.1, gC, stC, by rw [q2.1]; exact knV, by rw [q2.1]; exact obV, by rw [q2.2.1]; exact asC, q4⟩,
    ⟨V', ⟨q5.1, State.isArrayOf_alike al'.symm q5.2.1, q5.2.2.1⟩, q6, by rw [← al'.findClass]; exact q7, q8, fun j hj => by have := q9 j hj; rwa [Nat.zero_add] at this⟩, fun O n d w F n1 n2 => ?_⟩, hl, hc, hs⟩, st⟩
  · intro y hy
    simp only [List.mem_cons, List.not_mem_nil, or_false] at hy
    rcases hy with rfl | rfl <;> rfl
  · by_cases q : y = x
    · subst q
      cases hD.symm.trans hy
      exact ⟨E', q1.1, q2.2.1, q2.1, hsz⟩
    · exact ⟨cy, q10 y cy q hy, rfl, rfl, rfl⟩
  · obtain ⟨D3, cf, k, i, f, g1, g2, g3, g4, g5, g6, g7⟩ := F
    cases hD.symm.trans g1
    simp only [RoadKit.slotOf, g2, gV, gC, Option.map_some, Option.getD_some] at n1 n2
    exact ⟨E', cf, k, i, f, q1.1, g2, g3, by rw [q2.1]; exact g4, by rw [q2.1]; exact g5, by rw [q2.2.1]; exact g6, by rw [q2.2.2 f.slot (by simp [n1, n2])]; exact g7⟩
end StrChars.Road
namespace StrChars.Road
open Jvm Sem ClassFile Op Lib Jvm.Stand Jvm.Free Jvm.Free.XT
/-- WHAT COMES BACK, the byte[] as a list of values -/
def QA (Z : State) (x : Addr) (zn : Int32) (cs : List Int32) (h : Heap) (v : Option Value) (h' : Heap) (L : List Loc) : Prop := v = none ∧ (∀ y ∈ L, y.base = x) ∧ RoadKit.Keep h h' [x] ∧ h'.size = h.size + 1 ∧ RoadKit.Exa Z h' x ST ∧ RoadKit.Fld Z h' x ST "value" "[B" (.ref h.size) ∧ RoadKit.Fld Z h' x ST "coder" "B" (.int 0) ∧
  (∃ kb, Z.vm.findClass "[B" = some kb ∧ RoadKit.Arv Z h' h.size kb .byte zn (cs.map fun c => .int (lo8 c)) (.int 0)) ∧
  ∀ (O n d : String) (w : Value), RoadKit.Fld Z h x O n d w → RoadKit.slotOf Z O n d ≠ RoadKit.slotOf Z ST "value" "[B" → RoadKit.slotOf Z O n d ≠ RoadKit.slotOf Z ST "coder" "B" → RoadKit.Fld Z h' x O n d w
/-- **new String(chars) AT A CALL, THE ARRAYS AS LISTS**: the char[] at b holds cs, not empty, no char above 255 -/
theorem backArv {p : Program} {l : Launch} {e : Env} {R : Room} {s : State} {args : Array Value} {below : List Frame} {len W : Nat} {Z : State} {a0 : Array Value} {h : Heap} (hZ : Z.Warmed39 s.vm) (hw : ∀ d ∈ words, d.before a0 Z = true) {kI : Nat} (wi : (Jvm.Cond.instantiable ST kI).before a0 Z = true)
    {x b : Addr} {k : ClassId} {zn z : Int32} {cs : List Int32} {dv v0 c0 : Value} (E : RoadKit.Exa Z h x ST) (V : RoadKit.Fld Z h x ST "value" "[B" v0) (C : RoadKit.Fld Z h x ST "coder" "B" c0) (K : RoadKit.Arv Z h b k .char zn (cs.map Value.int) dv) (S : RoadKit.Sta Z h ST "COMPACT_STRINGS" "Z" (.int z)) (hz : ¬ z = 0)
    (hlen : zn.toNatClampNeg = cs.length) (h0 : 0 < cs.length) (hbig : cs.length ≤ 536870912) (hall : ∀ c ∈ cs, ¬ 255 < c) (hfr : 4 ≤ R.frames) (hlo : W + 65 ≤ R.locals) :
    Back l R p e below s args New1.yN len W (fun P a => a = #[.ref x, .ref b] ∧ P.U.heap = h ∧ P.cells + 1 ≤ R.cells ∧ P.slots + cs.length ≤ R.slots)
      (fun P _ v B => ∃ L, QA Z x zn cs h v B.U.heap L ∧ B.locs = P.locs ++ L ∧ B.cells = P.cells + 1 ∧ B.slots = P.slots + cs.length) := by
  obtain ⟨A, K1, K2, K3, K4, K5, K6⟩ := K
  have e : A.slots.size = cs.length := K3.trans hlen
  have hat : ∀ (i : Nat) (hi : i < cs.length), A.slots[i]? = some (.int cs[i]) := fun i hi => by rw [K5 i (by omega)]; simp [List.getD_eq_getElem?_getD, hi]
  have hcv : ∀ (i : Nat) (hi : i < cs.length), cv A i = cs[i] := fun i hi => by unfold cv; rw [hat i hi]
  have hty : Typed .char A := fun i v hv => by
    have hi : i < A.slots.size := (Array.getElem?_eq_some_iff.mp hv).1
    have q := K5 i hi
    rw [hv] at q
    rw [Option.some.inj q]
    exact K6 i hi
  refine Back.mono (back hZ hw wi E V C K1 hty S hz (by omega) (by omega) (fun i hi => by rw [hcv i (by omega)]; exact hall _ (List.getElem_mem _)) hfr hlo) (fun P a hp => ⟨hp.1, hp.2.1, hp.2.2.1, by rw [e]; exact hp.2.2.2⟩) (fun P a v B hp hq => ?_)
  obtain ⟨L, ⟨q1, q2, q3, q4, q5, q6, q7, ⟨V', v1, v2, v3, v4, v5⟩, q9⟩, hl, hc, hs⟩ := hq
  refine ⟨L, ⟨q1, q2, q3, q4, q5, q6, q7, ⟨V'.cls, v3, V', v1, rfl, by rw [v4, e, hlen], K4, fun i hi => ?_, fun i hi => ?_⟩, q9⟩, hl, hc, by rw [hs, e]⟩
  · have hi' : i < cs.length := by omega
    rw [v5 i (by omega), hcv i hi']; simp [List.getD_eq_getElem?_getD, hi']
  · have hi' : i < cs.length := by omega
    simp only [List.getD_eq_getElem?_getD, List.getElem?_map, List.getElem?_eq_getElem hi', Option.map_some, Option.getD_some]
    exact fits_lo8 _
end StrChars.Road
namespace StrChars.Road
open Jvm Sem ClassFile Op Lib Jvm.Stand Jvm.Free Jvm.Free.XT
/-- WHAT COMES BACK, in the writer's own shape -/
def QV (Z : State) (x : Addr) (N : Int32) (bs : List Int32) (h : Heap) (n0 : Nat) (v : Option Value) (h' : Heap) (L : List Loc) : Prop := v = none ∧ RoadKit.Fr n0 L ∧ RoadKit.Keep h h' [x] ∧ RoadKit.Exa Z h' x ST ∧ RoadKit.Fld Z h' x ST "coder" "B" (.int 0) ∧
  ∃ (t : Addr) (kb : ClassId), n0 ≤ t ∧ h.size ≤ t ∧ ¬ t = x ∧ RoadKit.Fld Z h' x ST "value" "[B" (.ref t) ∧ RoadKit.Arv Z h' t kb .byte N (bs.map Value.int) (.int 0)
/-- **new String(chars) AT A CALL, FOR THE WRITER**: a char[] of n known ints, each 0 to 255 -/
theorem backV {p : Program} {l : Launch} {e : Env} {R : Room} {s : State} {args : Array Value} {below : List Frame} {len W : Nat} {Z : State} {a0 : Array Value} {h : Heap} (hZ : Z.Warmed39 s.vm) (hw : ∀ d ∈ words, d.before a0 Z = true) {kI : Nat} (wi : (Jvm.Cond.instantiable ST kI).before a0 Z = true)
    {x b : Addr} {kC : ClassId} {cs bs : List Int32} {d v0 c0 : Value} {z N : Int32} {n n0 : Nat} (hx0 : n0 ≤ x) (hh0 : n0 ≤ h.size) (E : RoadKit.Exa Z h x ST) (V : RoadKit.Fld Z h x ST "value" "[B" v0) (C : RoadKit.Fld Z h x ST "coder" "B" c0) (K : RoadKit.Arv Z h b kC .char N (cs.map Value.int) d) (S : RoadKit.Sta Z h ST "COMPACT_STRINGS" "Z" (.int z)) (hz : ¬ z = 0)
    (hn : cs.length = n) (hN : N = Int32.ofNat n) (l0 : 0 < n) (l2 : n ≤ 4000) (hp : ∀ c ∈ cs, ¬ c < 0 ∧ ¬ (255 : Int32) < c) (hb : bs = cs.map (fun c => c.toInt8.toInt32)) (hfr : 4 ≤ R.frames) (hlo : W + 65 ≤ R.locals) :
    Back l R p e below s args (⟨"java/lang/String", "<init>", "([C)V"⟩ : MethodName) len W (fun P a => a = #[.ref x, .ref b] ∧ P.U.heap = h ∧ P.cells + 1 ≤ R.cells ∧ P.slots + n ≤ R.slots)
      (fun P _ v B => ∃ L, QV Z x N bs h n0 v B.U.heap L ∧ B.locs = P.locs ++ L ∧ B.cells = P.cells + 1 ∧ B.slots = P.slots + n) := by
  subst hn hN hb
  refine Back.mono (backArv hZ hw wi E V C K S hz (n32 (by omega)) l0 (by omega) (fun c hc => (hp c hc).2) hfr hlo) (fun P a hp => hp) (fun P a v B hp hq => ?_)
  obtain ⟨L, ⟨q1, q2, q3, q4, q5, q6, q7, ⟨kb, v1, v2⟩, q9⟩, hl, hc, hs⟩ := hq
  exact ⟨L, ⟨q1, fun y hy => by rw [q2 y hy]; exact hx0, q3, q5, q7, h.size, kb, hh0, Nat.le_refl _, Nat.ne_of_gt E.lt, q6, by rw [List.map_map]; exact v2⟩, hl, hc, hs⟩
end StrChars.Road
namespace StrChars
open Jvm Sem ClassFile Op Lib Jvm.Stand Jvm.Free.XT Jvm.Free.ALB Jvm.Free.JM Jvm.Free
open Jvm.Lib.Cold (StaticIs)
def hi8 (x : Int32) : Int32 := lo8 (x >>> ((8 : Int32) &&& 31))
theorem shr0 (c : Int32) : c >>> ((0 : Int32) &&& 31) = c := by
  have e : ((0 : Int32) &&& 31) = 0 := by decide
  rw [e]
  apply Int32.toBitVec_inj.mp
  rw [Int32.toBitVec_shiftRight]
  have e1 : ((0 : Int32).toBitVec.smod 32) = 0#32 := by decide
  rw [e1, BitVec.sshiftRight_eq']
  exact BitVec.sshiftRight_zero
end StrChars
namespace StrChars
open Jvm Sem ClassFile Op Lib Jvm.Stand Jvm.Free.XT Jvm.Free.ALB Jvm.Free.JM Jvm.Free
open Jvm.Lib.Cold (StaticIs)
theorem shr1 {n : Nat} (h : 2 * n < 2 ^ 31) : Int32.ofNat (2 * n) >>> ((1 : Int32) &&& 31) = Int32.ofNat n := by
  have e : ((1 : Int32) &&& 31) = 1 := by decide
  rw [e]
  apply Int32.toBitVec_inj.mp
  rw [Int32.toBitVec_shiftRight]
  have e1 : ((1 : Int32).toBitVec.smod 32) = 1#32 := by decide
  have hm : (BitVec.ofNat 32 (2 * n)).toNat = 2 * n := by rw [BitVec.toNat_ofNat, Nat.mod_eq_of_lt (by omega)]
  rw [e1, BitVec.sshiftRight_eq']
  apply BitVec.eq_of_toNat_eq
  show ((BitVec.ofNat 32 (2 * n)).sshiftRight 1).toNat = (BitVec.ofNat 32 n).toNat
  rw [BitVec.toNat_sshiftRight_of_msb_false (by rw [BitVec.msb_eq_false_iff_two_mul_lt, hm]; omega), hm, BitVec.toNat_ofNat, Nat.shiftRight_eq_div_pow]
  omega
/-- the array's cell V codes the n chars f 0 .. f (n - 1) by the coder cd, as the JDK does: coder 1 just where some char is above 255 -/
def Cod (cd : Int32) (n : Nat) (f : Nat → Int32) (V : Cell) : Prop := (cd = 0 ∧ V.slots.size = n ∧ ∀ j, j < n → V.slots[j]? = some (.int (lo8 (f j))) ∧ ¬ 255 < f j) ∨ (cd = 1 ∧ V.slots.size = 2 * n ∧ (∀ j, j < n → V.slots[2 * j]? = some (.int (lo8 (f j))) ∧ V.slots[2 * j + 1]? = some (.int (hi8 (f j)))) ∧ ∃ j, j < n ∧ 255 < f j)
theorem Cod.cd {cd : Int32} {n : Nat} {f : Nat → Int32} {V : Cell} (h : Cod cd n f V) : cd = 0 ∨ cd = 1 := h.imp (fun q => q.1) fun q => q.1
theorem Cod.len {cd : Int32} {n : Nat} {f : Nat → Int32} {V : Cell} (h : Cod cd n f V) (hs : V.slots.size < 2 ^ 31) : Int32.ofNat V.slots.size >>> (cd &&& 31) = Int32.ofNat n := by
  rcases h with ⟨rfl, h, -⟩ | ⟨rfl, h, -⟩
  · rw [shr0, h]
  · rw [h, shr1 (by omega)]
/-- **x is a String of the n chars f 0 .. f (n - 1)**, Latin-1 or UTF-16; its array at t has the cell V -/
def Txt (x t : Addr) (V : Cell) (cd : Int32) (n : Nat) (f : Nat → Int32) (U : State) : Prop := Exact "java/lang/String" x U ∧ Has x "java/lang/String" "value" "[B" (.ref t) U ∧ Has x "java/lang/String" "coder" "B" (.int cd) U ∧ XT.Arr .byte t V U ∧ Cod cd n f V ∧ ∀ j, j < n → ¬ f j < 0 ∧ ¬ 65535 < f j
theorem Txt.mv {x t : Addr} {V : Cell} {cd : Int32} {n : Nat} {f : Nat → Int32} {U U' : State} (h : Txt x t V cd n f U) (hal : U.vm.Alike U'.vm) (hh : U'.heap = U.heap) : Txt x t V cd n f U' := ⟨h.1.mv hal hh, h.2.1.mv hal hh, h.2.2.1.mv hal hh, h.2.2.2.1.mv hal hh, h.2.2.2.2⟩
namespace Cdr
def yN : MethodName := ⟨"java/lang/String", "coder", "()B"⟩
abbrev yB : ByteArray := jdk_42_method_152_code
theorem d0 : decode yB 0 = .ok (.getstatic 38, 3) := by decide +kernel
theorem d3 : decode yB 3 = .ok (.ifCond (.eq) 10, 3) := by decide +kernel
theorem d6 : decode yB 6 = .ok (.aload_n 0, 1) := by decide +kernel
theorem d7 : decode yB 7 = .ok (.getfield 15, 3) := by decide +kernel
theorem d10 : decode yB 10 = .ok (.goto 4, 3) := by decide +kernel
theorem d14 : decode yB 14 = .ok (.ireturn, 1) := by decide +kernel
def site : List Cond := [.fieldLink "java/lang/String" 38 "java/lang/String" "COMPACT_STRINGS" "Z", .fieldLink "java/lang/String" 15 "java/lang/String" "coder" "B"]
def tab : Cond := tabOf yN yB 1 (some .byte) site
def P (x : Addr) (cd z : Int32) (args : Array Value) (s : State) : Prop := args = #[.ref x] ∧ Has x "java/lang/String" "coder" "B" (.int cd) s ∧ (cd = 0 ∨ cd = 1) ∧ StaticIs s "java/lang/String" "COMPACT_STRINGS" "Z" (.int z) ∧ ¬ z = 0
def E (cd : Int32) (r : Option Value) (s u : State) : Prop := XT.PureE (some (.int cd)) r s u
theorem law (l : Launch) (x : Addr) (cd z : Int32) : Law l yN 1 0 0 0 yB 1 (some .byte) site (P x cd z) (E cd) [] 0 0 := by
  refine Law.of_walk (plainFor_of_name (by decide +kernel)) (by decide +kernel) (by decide +kernel) (by decide) (fun _ _ h => by rw [h.1]; rfl) (fun _ U U' hal hh h => ⟨h.1, h.2.1.mv hal hh, h.2.2.1, h.2.2.2.1.there hal hh, h.2.2.2.2⟩) (fun r U U' V V' h1 hal h2 h => XT.PureE.mv r U U' V V' h1 hal h2 h) ?_
  intro p e s m args below meth c s₁ X0 hexec hbytes hml hret hlk hnm hown hh0 W hP
  obtain ⟨rfl, hx, hc, s1, hz⟩ := hP
  have c1 : Steps p.tables e below (s₁.setTop (entryFrame m #[.ref x] 1)) (s₁.setTop (mkF m 0 #[.val (.ref x)] [])) := entry rfl
  obtain ⟨T2, X2, q2, st2⟩ := X0.sget hexec hown (wk W (.fieldLink "java/lang/String" 38 "java/lang/String" "COMPACT_STRINGS" "Z")) s1 (fun _ _ h => by rw [hh0]; exact h) (g := (mkF m 0 #[.val (.ref x)] [])) rfl (hb hbytes d0)
  have hh2 := q2.trans hh0
  have c3 : Steps p.tables e below (s₁.setTop (entryFrame m #[.ref x] 1)) (T2.setTop (mkF m 7 #[.val (.ref x)] [.ref x])) := (c1.trans (st2 _ (Steps.refl _))).trans (by
    refine XS.ifNo X2.here hexec rfl (hb hbytes d3) rfl (i0_eq_f hz) ?_
    refine XS.aloadN X2.here hexec rfl (hb hbytes d6) rfl rfl ?_
    exact Steps.refl _)
  obtain ⟨T4, X4, q4, st4⟩ := X2.hget hexec hown (wk W (.fieldLink "java/lang/String" 15 "java/lang/String" "coder" "B")) (hx.mv X2.warmed.alike hh2) (g := (mkF m 7 #[.val (.ref x)] [.ref x])) rfl (rest := []) rfl (hb hbytes d7)
  have c5 : Steps p.tables e below (s₁.setTop (entryFrame m #[.ref x] 1)) (T4.setTop (mkF m 14 #[.val (.ref x)] [.int cd])) := (c3.trans (st4 _ (Steps.refl _))).trans (by
    refine XS.goto X4.here hexec rfl (pc0 := 10) rfl (hb hbytes d10) (by decide) rfl ?_
    exact Steps.refl _)
  exact ⟨T4, some (.int cd), _, _, _, X4, rfl, rfl, rfl, (fun h => by cases h), ⟨rfl, q4.trans hh2⟩, fun fs hl => c5.trans (X4.ireturnOut hexec hret (by rcases hc with rfl | rfl <;> rfl) (Or.inr (Or.inr (Or.inl rfl))) (hb hbytes d14) hl)⟩
end Cdr
namespace Len
def yN : MethodName := ⟨"java/lang/String", "length", "()I"⟩
abbrev yB : ByteArray := jdk_42_method_54_code
theorem d0 : decode yB 0 = .ok (.aload_n 0, 1) := by decide +kernel
theorem d1 : decode yB 1 = .ok (.getfield 9, 3) := by decide +kernel
theorem d4 : decode yB 4 = .ok (.arraylength, 1) := by decide +kernel
theorem d5 : decode yB 5 = .ok (.aload_n 0, 1) := by decide +kernel
theorem d6 : decode yB 6 = .ok (.invokevirtual 335, 3) := by decide +kernel
theorem d9 : decode yB 9 = .ok (.ishr, 1) := by decide +kernel
theorem d10 : decode yB 10 = .ok (.ireturn, 1) := by decide +kernel
def site : List Cond := [.fieldLink "java/lang/String" 9 "java/lang/String" "value" "[B", Cdr.tab] ++ virtW "java/lang/String" 335 "java/lang/String" Cdr.yN Cdr.yN
def tab : Cond := tabOf yN yB 1 (some .int) site
def P (x t : Addr) (V : Cell) (cd : Int32) (n : Nat) (f : Nat → Int32) (z : Int32) (args : Array Value) (s : State) : Prop := args = #[.ref x] ∧ Txt x t V cd n f s ∧ StaticIs s "java/lang/String" "COMPACT_STRINGS" "Z" (.int z) ∧ ¬ z = 0
def E (n : Nat) (r : Option Value) (s u : State) : Prop := XT.PureE (some (.int (Int32.ofNat n))) r s u
/-- length() of a String of n chars, in either coding -/
theorem law (l : Launch) (x t : Addr) (V : Cell) (cd : Int32) (n : Nat) (f : Nat → Int32) (z : Int32) : Law l yN 1 0 1 13 yB 1 (some .int) site (P x t V cd n f z) (E n) [] 0 0 := by
  refine Law.of_walk (plainFor_of_name (by decide +kernel)) (by decide +kernel) (by decide +kernel) (by decide) (fun _ _ h => by rw [h.1]; rfl) (fun _ U U' hal hh h => ⟨h.1, h.2.1.mv hal hh, h.2.2.1.there hal hh, h.2.2.2⟩) (fun r U U' V V' h1 hal h2 h => XT.PureE.mv r U U' V V' h1 hal h2 h) ?_
  intro p e s m args below meth c s₁ X0 hexec hbytes hml hret hlk hnm hown hh0 W hP
  obtain ⟨rfl, hx, s1, hz⟩ := hP
  have v31 := hx.2.2.2.1.2.2.2
  have c1 : Steps p.tables e below (s₁.setTop (entryFrame m #[.ref x] 1)) (s₁.setTop (mkF m 1 #[.val (.ref x)] [.ref x])) := Steps.trans (entry rfl) (by
    show Steps p.tables e below (s₁.setTop (mkF m 0 #[.val (.ref x)] [])) _
    refine XS.aloadN X0.here hexec rfl (hb hbytes d0) rfl rfl ?_
    exact Steps.refl _)
  obtain ⟨T2, X2, q2, st2⟩ := X0.hget hexec hown (wk W (.fieldLink "java/lang/String" 9 "java/lang/String" "value" "[B")) (hx.mv X0.warmed.alike hh0).2.1 (g := (mkF m 1 #[.val (.ref x)] [.ref x])) rfl (rest := []) rfl (hb hbytes d1)
  have hh2 := q2.trans hh0
  have hx2 := hx.mv X2.warmed.alike hh2
  have c3 : Steps p.tables e below (s₁.setTop (entryFrame m #[.ref x] 1)) (T2.setTop (mkF m 6 #[.val (.ref x)] [.ref x, .int (Int32.ofNat V.slots.size)])) := (c1.trans (st2 _ (Steps.refl _))).trans (by
    refine X2.alen hexec hx2.2.2.2.1 rfl rfl (hb hbytes d4) ?_
    refine XS.aloadN X2.here hexec rfl (hb hbytes d5) rfl rfl ?_
    exact Steps.refl _)
  obtain ⟨v4, T4, X4, E4, g4⟩ := X2.callV hexec (Cdr.law l x cd z) hown (wks W (virtW "java/lang/String" 335 "java/lang/String" Cdr.yN Cdr.yN)) rfl (by decide) (wk W Cdr.tab) (W := 1) (Nat.le_of_ble_eq_true rfl) (Nat.le_of_ble_eq_true rfl) (Nat.le_refl _) (Nat.le_refl _) (hx2.1.fc X2.warmed.alike) hx2.1.is (g := (mkF m 6 #[.val (.ref x)] [.ref x, .int (Int32.ofNat V.slots.size)])) rfl (by rw [hml]; rfl) c3 (argsL := []) (rest := [.int (Int32.ofNat V.slots.size)]) rfl rfl (by show 2 * 0 + (1 + 0) ≤ _; decide) (hb hbytes d6) (⟨rfl, hx2.2.2.1, hx.2.2.2.2.1.cd, s1.there X2.warmed.alike hh2, hz⟩)
  obtain ⟨rfl, q4⟩ := E4
  have c5 : Steps p.tables e below (s₁.setTop (entryFrame m #[.ref x] 1)) (T4.setTop (mkF m 10 #[.val (.ref x)] [.int (Int32.ofNat V.slots.size >>> (cd &&& 31))])) := Steps.trans g4 (by
    refine ishr X4.here hexec rfl (hb hbytes d9) rfl ?_
    exact Steps.refl _)
  rw [hx.2.2.2.2.1.len v31] at c5
  exact ⟨T4, some (.int (Int32.ofNat n)), _, _, _, X4, rfl, rfl, rfl, (fun h => by cases h), ⟨rfl, q4.trans hh2⟩, fun fs hl => c5.trans (X4.ireturnOut hexec hret rfl (Or.inl rfl) (hb hbytes d10) hl)⟩
theorem pays {l : Launch} {R : Room} {p : Program} {e : Env} {below : List Frame} {s : State} {sargs : Array Value} {len W : Nat} (x t : Addr) (V : Cell) (cd : Int32) (n : Nat) (f : Nat → Int32) (z : Int32) (htab : tab.before sargs s = true) (hfr : 2 ≤ R.frames) (hlo : W + 25 ≤ R.locals) :
    Back l R p e below s sargs yN len W (fun A₁ a₁ => A₁.cells + 0 ≤ R.cells ∧ A₁.slots + 0 ≤ R.slots ∧ P x t V cd n f z a₁ A₁.U) (fun A₁ _ v₁ B₁ => E n v₁ A₁.U B₁.U ∧ B₁.locs = A₁.locs ++ [] ∧ B₁.cells = A₁.cells + 0 ∧ B₁.slots = A₁.slots + 0) :=
  (law l x t V cd n f z).pays htab hfr (by omega)
end Len
end StrChars
namespace StrChars.Road
open Jvm Sem ClassFile Op Lib Jvm.Stand Jvm.Free Jvm.Free.XT
open Jvm.Lib.Cold (StaticIs)
theorem consq {a : Array Value} {s : State} {c : Jvm.Cond} {L : List Jvm.Cond} (h0 : c.before a s = true) (h : ∀ w ∈ L, w.before a s = true) : ∀ w ∈ c :: L, w.before a s = true := fun w hw => (List.mem_cons.mp hw).elim (fun e => e ▸ h0) (h w)
/-- the words of String.length(), either coding -/
abbrev wordsLen : List Jvm.Cond := [.code Len.yN Len.yB 1 (some .int), .initialized ST, .fieldLink ST 9 ST "value" "[B", .fieldLink ST 38 ST "COMPACT_STRINGS" "Z", .fieldLink ST 15 ST "coder" "B", .code Cdr.yN Cdr.yB 1 (some .byte), .methodLink ST 335 Cdr.yN, .declares Cdr.yN, .selects ST Cdr.yN Cdr.yN, .instanceMethod Cdr.yN]
theorem tabLen_of {a : Array Value} {s : State} (h : ∀ w ∈ wordsLen, w.before a s = true) : Len.tab.before a s = true := by
  have hc : Cdr.tab.before a s = true := unparts (wk h (.code Cdr.yN Cdr.yB 1 (some .byte))) (wks h (.initialized Cdr.yN.cls :: Cdr.site))
  have q := consq hc h
  exact unparts (wk q (.code Len.yN Len.yB 1 (some .int))) (wks q (.initialized Len.yN.cls :: Len.site))
theorem movedLen {Z s : State} {a0 args : Array Value} (hZ : Z.Warmed39 s.vm) (hw : ∀ d ∈ wordsLen, d.before a0 Z = true) : ∀ d ∈ wordsLen, d.before args s = true := fun d hd => by
  have q := hw d hd
  have t : ∀ d ∈ wordsLen, d = .arrayClass .byte ∨ (d.onTables && d.keepsFace) = true := by decide +kernel
  rcases t d hd with rfl | t
  · exact RoadKit.mvA hZ q
  · exact RoadKit.mv hZ q t
/-- the bytes of the chars cs, low before high -/
def wideBytes : List Int32 → List Value
  | [] => []
  | c :: cs => .int (lo8 c) :: .int (hi8 c) :: wideBytes cs
theorem wide_lo (d : Value) : ∀ (cs : List Int32) (j : Nat), j < cs.length → (wideBytes cs).getD (2 * j) d = .int (lo8 (cs.getD j 0))
  | [], j, h => absurd h (Nat.not_lt_zero j)
  | c :: cs, 0, _ => rfl
  | c :: cs, j + 1, h => by
    have q := wide_lo d cs j (by simpa using h)
    rw [show 2 * (j + 1) = 2 * j + 1 + 1 from by omega]
    simpa [wideBytes] using q
theorem wide_hi (d : Value) : ∀ (cs : List Int32) (j : Nat), j < cs.length → (wideBytes cs).getD (2 * j + 1) d = .int (hi8 (cs.getD j 0))
  | [], j, h => absurd h (Nat.not_lt_zero j)
  | c :: cs, 0, _ => rfl
  | c :: cs, j + 1, h => by
    have q := wide_hi d cs j (by simpa using h)
    rw [show 2 * (j + 1) + 1 = 2 * j + 1 + 1 + 1 from by omega]
    simpa [wideBytes] using q
theorem low_at (d : Value) (cs : List Int32) (j : Nat) (h : j < cs.length) : (cs.map fun c => Value.int (lo8 c)).getD j d = .int (lo8 (cs.getD j 0)) := by
  simp [List.getD_eq_getElem?_getD, h]
/-- an array of N2 bytes vs codes the chars cs by the coder cd -/
def CodA (cs : List Int32) (cd N2 : Int32) (vs : List Value) : Prop := (cd = 0 ∧ N2 = Int32.ofNat cs.length ∧ vs = (cs.map fun c => Value.int (lo8 c)) ∧ ∀ c ∈ cs, ¬ 255 < c) ∨ (cd = 1 ∧ N2 = Int32.ofNat (2 * cs.length) ∧ vs = wideBytes cs ∧ ∃ c ∈ cs, 255 < c)
theorem CodA.cod {cs : List Int32} {cd N2 : Int32} {vs : List Value} {V : Cell} (h : CodA cs cd N2 vs) (hn : 2 * cs.length < 2 ^ 31) (hs : V.slots.size = N2.toNatClampNeg) (hv : RoadKit.Has V vs (.int 0)) : Cod cd cs.length (fun j => cs.getD j 0) V := by
  rcases h with ⟨rfl, rfl, rfl, h⟩ | ⟨rfl, rfl, rfl, c, hc, hw⟩
  · rw [n32 (by omega)] at hs
    exact Or.inl ⟨rfl, hs, fun j hj => ⟨by rw [hv j (by omega), low_at _ _ _ hj], by
      have e : cs.getD j 0 = cs[j] := by simp [List.getD_eq_getElem?_getD, hj]
      show ¬ 255 < cs.getD j 0
      rw [e]; exact h _ (List.getElem_mem _)⟩⟩
  · rw [n32 (by omega)] at hs
    obtain ⟨j, hj, rfl⟩ := List.getElem_of_mem hc
    exact Or.inr ⟨rfl, hs, fun j hj => ⟨by rw [hv _ (by omega), wide_lo _ _ _ hj], by rw [hv _ (by omega), wide_hi _ _ _ hj]⟩, j, hj, by
      have e : cs.getD j 0 = cs[j] := by simp [List.getD_eq_getElem?_getD, hj]
      show 255 < cs.getD j 0
      rw [e]; exact hw⟩
/-- an object of exactly java/lang/String, its two fields found: as the laws ask it -/
theorem strObj {Z U : State} {a0 : Array Value} {kI : Nat} (wi : (Jvm.Cond.instantiable ST kI).before a0 Z = true) (al : Z.vm.Alike U.vm) {x : Addr} {v0 c0 : Value} (E : RoadKit.Exa Z U.heap x ST) (V : RoadKit.Fld Z U.heap x ST "value" "[B" v0) (C : RoadKit.Fld Z U.heap x ST "coder" "B" c0) :
    ∃ (D : Cell) (fV fC : Field), Blank ST x D U ∧ Found ST "value" "[B" fV U ∧ Found ST "coder" "B" fC U ∧ D.slots[fV.slot]? = some v0 ∧ D.slots[fC.slot]? = some c0 ∧ RoadKit.slotOf Z ST "value" "[B" = fV.slot ∧ RoadKit.slotOf Z ST "coder" "B" = fC.slot := by
  obtain ⟨D, cfV, kV, iV, fV, hD, gV, stV, knV, obV, asV, slV⟩ := V
  obtain ⟨D', cfC, kC, iC, fC, hD', gC, stC, -, -, asC, slC⟩ := C
  cases hD.symm.trans hD'
  obtain ⟨D2, kD, e1, e2, e3, e4, e5⟩ := E
  cases hD.symm.trans e1
  obtain ⟨c2, k2, i1, i2, i3, -⟩ := Cond.instantiable_spec wi
  cases e2.symm.trans i1
  cases e3.symm.trans i2
  obtain ⟨kU, u1, u2⟩ := al.2.2 _ _ e3
  exact ⟨D, fV, fC, ⟨hD, ⟨knV, fun q hq => by rw [hq] at obV; cases obV⟩, by rw [al.findClass]; exact e2, kU, u1, by rw [u2]; exact i3, by rw [u2]; exact e5 i3⟩, ⟨SBG.found_only al ⟨cfV, kV, iV, gV⟩, stV⟩, ⟨SBG.found_only al ⟨cfC, kC, iC, gC⟩, stC⟩, slV, slC, by simp [RoadKit.slotOf, gV], by simp [RoadKit.slotOf, gC]⟩
theorem sta_is {Z U : State} (al : Z.vm.Alike U.vm) {C n d : String} {v : Value} (S : RoadKit.Sta Z U.heap C n d v) : StaticIs U C n d v := by
  obtain ⟨cfS, iS, kS, fS, st, cS, t1, t2, t3, t4, t5, t6, t7⟩ := S
  exact StaticIs.there (s := { Z with heap := U.heap }) ⟨cfS, iS, kS, fS, st, cS, t1, t2, t3, t4, t5, (fun q => by rw [q] at t6; cases t6), t7⟩ al rfl
/-- **length() OF SUCH A STRING** -/
theorem lenW {p : Program} {l : Launch} {e : Env} {R : Room} {s : State} {args : Array Value} {below : List Frame} {len W : Nat} {Z : State} {a0 : Array Value} {h : Heap} (hZ : Z.Warmed39 s.vm) (hw : ∀ d ∈ wordsLen, d.before a0 Z = true) {kI : Nat} (wi : (Jvm.Cond.instantiable ST kI).before a0 Z = true)
    {x t : Addr} {kb : ClassId} {cs : List Int32} {cd N2 z : Int32} {vs : List Value} (E : RoadKit.Exa Z h x ST) (V : RoadKit.Fld Z h x ST "value" "[B" (.ref t)) (C : RoadKit.Fld Z h x ST "coder" "B" (.int cd)) (K : RoadKit.Arv Z h t kb .byte N2 vs (.int 0)) (hc : CodA cs cd N2 vs) (hb : ∀ c ∈ cs, ¬ c < 0 ∧ ¬ (65535 : Int32) < c)
    (S : RoadKit.Sta Z h ST "COMPACT_STRINGS" "Z" (.int z)) (hz : ¬ z = 0) (l2 : cs.length ≤ 4000) (hfr : 2 ≤ R.frames) (hlo : W + 25 ≤ R.locals) :
    Back l R p e below s args (⟨"java/lang/String", "length", "()I"⟩ : MethodName) len W (fun P a => a = #[.ref x] ∧ P.U.heap = h ∧ P.cells + 0 ≤ R.cells ∧ P.slots + 0 ≤ R.slots)
      (fun P _ v B => ∃ L, (v = some (.int (Int32.ofNat cs.length)) ∧ L = [] ∧ B.U.heap = h) ∧ B.locs = P.locs ++ L ∧ B.cells = P.cells + 0 ∧ B.slots = P.slots + 0) := by
  obtain ⟨A, K1, K2, K3, K4, K5, K6⟩ := K
  have hcod := hc.cod (by omega) K3 K5
  intro m meth c P g ig mk a X hg hsize hdg hW hn hp'
  obtain ⟨rfl, rfl, r1, r2⟩ := hp'
  have al : Z.vm.Alike P.U.vm := hZ.alike.trans X.warmed.alike
  obtain ⟨D, fV, fC, hB, F1, F2, g1, g2, -, -⟩ := strObj wi al E V C
  have hx : Txt x t A cd cs.length (fun j => cs.getD j 0) P.U := ⟨⟨_, hB.2.2.1, D, hB.1, rfl, by cases q : D.vm <;> first | rfl | exact absurd q (hB.2.1.2 _)⟩, Has.of hB F1 g1, Has.of hB F2 g2, ⟨K1.1, State.isArrayOf_alike al K1.2.1, K1.2.2, by rcases hcod with ⟨-, q, -⟩ | ⟨-, q, -⟩ <;> omega⟩, hcod, fun j hj => by
    have e : cs.getD j 0 = cs[j] := by simp [List.getD_eq_getElem?_getD, hj]
    show ¬ cs.getD j 0 < 0 ∧ ¬ 65535 < cs.getD j 0
    rw [e]; exact hb _ (List.getElem_mem _)⟩
  obtain ⟨v, B, X', ⟨⟨hv, hh⟩, hl, hk, hs⟩, st⟩ := Len.pays x t A cd cs.length (fun j => cs.getD j 0) z (tabLen_of (movedLen hZ hw)) hfr hlo m meth c P g ig mk _ X hg hsize hdg hW hn ⟨r1, r2, rfl, hx, sta_is al S, hz⟩
  exact ⟨v, B, X', ⟨[], ⟨hv, rfl, hh⟩, hl, hk, hs⟩, st⟩
end StrChars.Road
namespace StrChars.Road
open Jvm Sem ClassFile Op Lib Jvm.Stand Jvm.Free Jvm.Free.XT
open Jvm.Lib.Cold (StaticIs)
/-- what backV says of its String, as the contracts of this text ask it: cs's low bytes, coder 0 -/
theorem codOf {cs : List Int32} {n : Nat} (hn : cs.length = n) (hb : ∀ c ∈ cs, ¬ 255 < c) : CodA cs 0 (Int32.ofNat n) ((cs.map lo8).map Value.int) := Or.inl ⟨rfl, by rw [hn], by simp [List.map_map, Function.comp_def], hb⟩
end StrChars.Road
end Jvm.Pilot.@@N@@
namespace Jvm.Pilot.@@N@@
open Jvm Jvm.ClassFile Sem Op Lib Jvm.Free Jvm.Stand Jvm.LawKit Jvm.RoadKit Jvm.OwnKit
/-- the object at a is a String of these chars -/
def SV (Z : State) (h : Heap) (a : Addr) (cs : List Int32) : Prop :=
  Exa Z h a "java/lang/String" ∧ ∃ (cd : Int32) (b : Addr) (kb : ClassId) (N2 : Int32) (vs : List Value), Fld Z h a "java/lang/String" "coder" "B" (.int cd) ∧ Fld Z h a "java/lang/String" "value" "[B" (.ref b) ∧ Arv Z h b kb .byte N2 vs (.int 0) ∧ StrChars.Road.CodA cs cd N2 vs ∧ (∀ c ∈ cs, ¬ c < 0 ∧ ¬ (65535 : Int32) < c) ∧ cs.length ≤ 4000
theorem SV.exa {Z : State} {h : Heap} {a : Addr} {cs : List Int32} (S : SV Z h a cs) : Exa Z h a "java/lang/String" := S.1
theorem SV.lt {Z : State} {h : Heap} {a : Addr} {cs : List Int32} (S : SV Z h a cs) : a < h.size := S.1.lt
theorem SV.ext {Z : State} {h h' : Heap} {a : Addr} {cs : List Int32} (S : SV Z h a cs) (E : Ext h h') : SV Z h' a cs := by
  obtain ⟨X, cd, b, kb, N2, vs, C, V, A, r⟩ := S
  exact ⟨X.ext E, cd, b, kb, N2, vs, C.ext E, V.ext E, A.ext E, r⟩
theorem SV.keepX {Z : State} {h h' : Heap} {a : Addr} {cs : List Int32} {ws : List Addr} (S : SV Z h a cs) (K : Keep h h' ws) (q : ∀ x ∈ ws, x ≠ a ∧ NB Z h x) : SV Z h' a cs := by
  obtain ⟨X, cd, b, kb, N2, vs, C, V, A, r⟩ := S
  have ha : a ∉ ws := fun z => (q a z).1 rfl
  have hb : b ∉ ws := fun z => by obtain ⟨c, A', -⟩ := A; exact (q b z).2 c A'
  exact ⟨X.keep K, cd, b, kb, N2, vs, C.keep K ha, V.keep K ha, A.keep K hb, r⟩
section Str
variable {p : Program} {l : Launch} {e : Env} {R : Room} {s : State} {args : Array Value} {below : List Frame} {len Wd : Nat} {Z : State} {a0 : Array Value} {h : Heap} {vm0 : Vm}
/-- new String(char[]) of one or more chars below 256 -/
theorem newS (hZ : Z.Warmed39 vm0) (hw : ∀ d ∈ StrChars.Road.words, d.before a0 Z = true) (wi : (Jvm.Cond.instantiable "java/lang/String" 4).before a0 Z = true) (O : Ext Z.heap h) {x b : Addr} {kC : ClassId} {cs : List Int32} {d v0 c0 : Value} {z N : Int32}
    (hx0 : Z.heap.size ≤ x) (E : Exa Z h x "java/lang/String") (V : Fld Z h x "java/lang/String" "value" "[B" v0) (C : Fld Z h x "java/lang/String" "coder" "B" c0) (K : Arv Z h b kC .char N (cs.map Value.int) d) (S : Sta Z Z.heap "java/lang/String" "COMPACT_STRINGS" "Z" (.int z)) (hz : ¬ z = 0)
    (n : Nat) (hn : cs.length = n) (hN : N = Int32.ofNat n) (l0 : 0 < n) (l2 : n ≤ 4000) (hp : ∀ c ∈ cs, C8 c) (hfr : 4 ≤ R.frames) (hlo : Wd + 65 ≤ R.locals) :
    Back l R p e below (s.setVm vm0) args (⟨"java/lang/String", "<init>", "([C)V"⟩ : MethodName) len Wd (PreB R #[.ref x, .ref b] h 1 n) (PostB Z h [x] (fun v h' => v = none ∧ SV Z h' x cs) 1 n) := by
  refine Back.mono (StrChars.Road.backV (s := s.setVm vm0) hZ hw wi (bs := cs.map (fun c => c.toInt8.toInt32)) hx0 O.1 E V C K (S.ext O) hz hn hN l0 l2 hp rfl hfr hlo) (fun _ _ q => q) (fun P a v B hp' hq => ?_)
  obtain ⟨L, ⟨q1, q2, q3, q4, q5, t, kb, -, -, -, q6, q7⟩, hl, hc, hs⟩ := hq
  exact ⟨L, ⟨q2, q3, q1, q4, 0, t, kb, N, _, q5, q6, q7, by rw [hN]; exact StrChars.Road.codOf hn (fun c hc => (hp c hc).2), fun c hc => (hp c hc).up, by omega⟩, hl, hc, hs⟩
end Str
end Jvm.Pilot.@@N@@
namespace Jvm.Pilot.@@N@@
open Jvm Jvm.ClassFile Sem Op Lib Jvm.Free Jvm.Stand Jvm.LawKit Jvm.RoadKit Jvm.OwnKit
theorem lenS {p : Program} {l : Launch} {e : Env} {R : Room} {s : State} {args : Array Value} {below : List Frame} {len Wd : Nat} {Z : State} {a0 : Array Value} {h : Heap} {vm0 : Vm} (hZ : Z.Warmed39 vm0) (hw : ∀ d ∈ StrChars.Road.wordsLen, d.before a0 Z = true) (wi : (Jvm.Cond.instantiable "java/lang/String" 4).before a0 Z = true) (O : Ext Z.heap h) {x : Addr} {cs : List Int32} {z : Int32}
    (S : SV Z h x cs) (hC : Sta Z Z.heap "java/lang/String" "COMPACT_STRINGS" "Z" (.int z)) (hz : ¬ z = 0) (hfr : 2 ≤ R.frames) (hlo : Wd + 25 ≤ R.locals) :
    Back l R p e below (s.setVm vm0) args (⟨"java/lang/String", "length", "()I"⟩ : MethodName) len Wd (PreB R #[.ref x] h 0 0) (PostB Z h [] (fun v h' => v = some (.int (Int32.ofNat cs.length)) ∧ h' = h) 0 0) := by
  obtain ⟨E, cd, b, kb, N2, vs, C, V, A, hc, hb, l2⟩ := S
  refine Back.mono (StrChars.Road.lenW (s := s.setVm vm0) hZ hw wi E V C A hc hb (hC.ext O) hz l2 hfr hlo) (fun _ _ q => q) (fun P a v B hp hq => ?_)
  obtain ⟨L, ⟨q1, q2, q3⟩, hl, hk, hs⟩ := hq
  exact ⟨L, ⟨by rw [q2]; exact Fr.nil _, by rw [q3]; exact Keep.refl _ _, q1, q3⟩, hl, hk, hs⟩
end Jvm.Pilot.@@N@@
namespace Jvm.Pilot.@@N@@
open Jvm Jvm.ClassFile Sem Op Lib Jvm.Free Jvm.Stand Jvm.LawKit Jvm.RoadKit Jvm.OwnKit Bundle Jvm.Pilot.@@N@@.Jvm.D
theorem wd {a0 : Array Value} {Z : State} (hw : ∀ d ∈ tables_1, d.before a0 Z = true) (k : Nat) {d : Jvm.Cond} (h : tables_1[k]? = some d) : d.before a0 Z = true := hw _ (List.mem_of_getElem? h)
theorem wsNew {a0 : Array Value} {Z : State} (hw : ∀ d ∈ tables_1, d.before a0 Z = true) : ∀ d ∈ StrChars.Road.words, d.before a0 Z = true := fun d hd => hw d ((by decide +kernel : ∀ d ∈ StrChars.Road.words, d ∈ tables_1) d hd)
theorem wsLen {a0 : Array Value} {Z : State} (hw : ∀ d ∈ tables_1, d.before a0 Z = true) : ∀ d ∈ StrChars.Road.wordsLen, d.before a0 Z = true := fun d hd => hw d ((by decide +kernel : ∀ d ∈ StrChars.Road.wordsLen, d ∈ tables_1) d hd)
theorem elw {a0 : Array Value} {Z : State} (hw : ∀ d ∈ tables_1, d.before a0 Z = true) : EW Z a0 consts_1 := EW.cons (wd hw 82 rfl) (by decide) (EW.nil)
theorem wsStr {a0 : Array Value} {Z : State} (hw : ∀ d ∈ tables_1, d.before a0 Z = true) : ∀ d ∈ Bundle.stringAtoms, d.before a0 Z = true := fun d hd => hw d ((by decide +kernel : ∀ d ∈ Bundle.stringAtoms, d ∈ tables_1) d hd)
theorem pn0 : plainName "java/lang/String" = true := by first | (simp [plainName, overriddenIn]; done) | decide +kernel
theorem pn1 : plainName "java/lang/Record" = true := by first | (simp [plainName, overriddenIn]; done) | decide +kernel
theorem pn2 : plainName "com/example/nuntius/nuntius/http/ParameterValueNumberPinLaw" = true := by first | (simp [plainName, overriddenIn]; done) | decide +kernel
theorem pn3 : plainName "com/example/nuntius/nuntius/http/ParameterValue" = true := by first | (simp [plainName, overriddenIn]; done) | decide +kernel
theorem d1_0 : decode method_2_code 0 = .ok (.iload_n 1, 1) := by decide +kernel
theorem d1_1 : decode method_2_code 1 = .ok (.sipush 255, 3) := by decide +kernel
theorem d1_4 : decode method_2_code 4 = .ok (.iand, 1) := by decide +kernel
theorem d1_5 : decode method_2_code 5 = .ok (.i2c, 1) := by decide +kernel
theorem d1_6 : decode method_2_code 6 = .ok (.istore 4, 2) := by decide +kernel
theorem d1_8 : decode method_2_code 8 = .ok (.iload_n 2, 1) := by decide +kernel
theorem d1_9 : decode method_2_code 9 = .ok (.sipush 255, 3) := by decide +kernel
theorem d1_12 : decode method_2_code 12 = .ok (.iand, 1) := by decide +kernel
theorem d1_13 : decode method_2_code 13 = .ok (.i2c, 1) := by decide +kernel
theorem d1_14 : decode method_2_code 14 = .ok (.istore 5, 2) := by decide +kernel
theorem d1_16 : decode method_2_code 16 = .ok (.iload_n 3, 1) := by decide +kernel
theorem d1_17 : decode method_2_code 17 = .ok (.sipush 255, 3) := by decide +kernel
theorem d1_20 : decode method_2_code 20 = .ok (.iand, 1) := by decide +kernel
theorem d1_21 : decode method_2_code 21 = .ok (.i2c, 1) := by decide +kernel
theorem d1_22 : decode method_2_code 22 = .ok (.istore 6, 2) := by decide +kernel
theorem d1_24 : decode method_2_code 24 = .ok (.iload_n 0, 1) := by decide +kernel
theorem d1_25 : decode method_2_code 25 = .ok (.ifCond .ne 14, 3) := by decide +kernel
theorem d1_28 : decode method_2_code 28 = .ok (.new 7, 3) := by decide +kernel
theorem d1_31 : decode method_2_code 31 = .ok (.dup, 1) := by decide +kernel
theorem d1_32 : decode method_2_code 32 = .ok (.iconst 0, 1) := by decide +kernel
theorem d1_33 : decode method_2_code 33 = .ok (.newarray .char, 2) := by decide +kernel
theorem d1_35 : decode method_2_code 35 = .ok (.invokespecial 9, 3) := by decide +kernel
theorem d1_38 : decode method_2_code 38 = .ok (.areturn, 1) := by decide +kernel
theorem d1_39 : decode method_2_code 39 = .ok (.iload_n 0, 1) := by decide +kernel
theorem d1_40 : decode method_2_code 40 = .ok (.iconst 1, 1) := by decide +kernel
theorem d1_41 : decode method_2_code 41 = .ok (.if_icmp .ne 19, 3) := by decide +kernel
theorem d1_44 : decode method_2_code 44 = .ok (.new 7, 3) := by decide +kernel
theorem d1_47 : decode method_2_code 47 = .ok (.dup, 1) := by decide +kernel
theorem d1_48 : decode method_2_code 48 = .ok (.iconst 1, 1) := by decide +kernel
theorem d1_49 : decode method_2_code 49 = .ok (.newarray .char, 2) := by decide +kernel
theorem d1_51 : decode method_2_code 51 = .ok (.dup, 1) := by decide +kernel
theorem d1_52 : decode method_2_code 52 = .ok (.iconst 0, 1) := by decide +kernel
theorem d1_53 : decode method_2_code 53 = .ok (.iload 4, 2) := by decide +kernel
theorem d1_55 : decode method_2_code 55 = .ok (.castore, 1) := by decide +kernel
theorem d1_56 : decode method_2_code 56 = .ok (.invokespecial 9, 3) := by decide +kernel
theorem d1_59 : decode method_2_code 59 = .ok (.areturn, 1) := by decide +kernel
theorem d1_60 : decode method_2_code 60 = .ok (.iload_n 0, 1) := by decide +kernel
theorem d1_61 : decode method_2_code 61 = .ok (.iconst 2, 1) := by decide +kernel
theorem d1_62 : decode method_2_code 62 = .ok (.if_icmp .ne 24, 3) := by decide +kernel
theorem d1_65 : decode method_2_code 65 = .ok (.new 7, 3) := by decide +kernel
theorem d1_68 : decode method_2_code 68 = .ok (.dup, 1) := by decide +kernel
theorem d1_69 : decode method_2_code 69 = .ok (.iconst 2, 1) := by decide +kernel
theorem d1_70 : decode method_2_code 70 = .ok (.newarray .char, 2) := by decide +kernel
theorem d1_72 : decode method_2_code 72 = .ok (.dup, 1) := by decide +kernel
theorem d1_73 : decode method_2_code 73 = .ok (.iconst 0, 1) := by decide +kernel
theorem d1_74 : decode method_2_code 74 = .ok (.iload 4, 2) := by decide +kernel
theorem d1_76 : decode method_2_code 76 = .ok (.castore, 1) := by decide +kernel
theorem d1_77 : decode method_2_code 77 = .ok (.dup, 1) := by decide +kernel
theorem d1_78 : decode method_2_code 78 = .ok (.iconst 1, 1) := by decide +kernel
theorem d1_79 : decode method_2_code 79 = .ok (.iload 5, 2) := by decide +kernel
theorem d1_81 : decode method_2_code 81 = .ok (.castore, 1) := by decide +kernel
theorem d1_82 : decode method_2_code 82 = .ok (.invokespecial 9, 3) := by decide +kernel
theorem d1_85 : decode method_2_code 85 = .ok (.areturn, 1) := by decide +kernel
theorem d1_86 : decode method_2_code 86 = .ok (.new 7, 3) := by decide +kernel
theorem d1_89 : decode method_2_code 89 = .ok (.dup, 1) := by decide +kernel
theorem d1_90 : decode method_2_code 90 = .ok (.iconst 3, 1) := by decide +kernel
theorem d1_91 : decode method_2_code 91 = .ok (.newarray .char, 2) := by decide +kernel
theorem d1_93 : decode method_2_code 93 = .ok (.dup, 1) := by decide +kernel
theorem d1_94 : decode method_2_code 94 = .ok (.iconst 0, 1) := by decide +kernel
theorem d1_95 : decode method_2_code 95 = .ok (.iload 4, 2) := by decide +kernel
theorem d1_97 : decode method_2_code 97 = .ok (.castore, 1) := by decide +kernel
theorem d1_98 : decode method_2_code 98 = .ok (.dup, 1) := by decide +kernel
theorem d1_99 : decode method_2_code 99 = .ok (.iconst 1, 1) := by decide +kernel
theorem d1_100 : decode method_2_code 100 = .ok (.iload 5, 2) := by decide +kernel
theorem d1_102 : decode method_2_code 102 = .ok (.castore, 1) := by decide +kernel
theorem d1_103 : decode method_2_code 103 = .ok (.dup, 1) := by decide +kernel
theorem d1_104 : decode method_2_code 104 = .ok (.iconst 2, 1) := by decide +kernel
theorem d1_105 : decode method_2_code 105 = .ok (.iload 6, 2) := by decide +kernel
theorem d1_107 : decode method_2_code 107 = .ok (.castore, 1) := by decide +kernel
theorem d1_108 : decode method_2_code 108 = .ok (.invokespecial 9, 3) := by decide +kernel
theorem d1_111 : decode method_2_code 111 = .ok (.areturn, 1) := by decide +kernel
theorem d2_0 : decode jdk_42_method_3_code 0 = .ok (.aload_n 0, 1) := by decide +kernel
theorem d2_1 : decode jdk_42_method_3_code 1 = .ok (.aload_n 1, 1) := by decide +kernel
theorem d2_2 : decode jdk_42_method_3_code 2 = .ok (.iconst 0, 1) := by decide +kernel
theorem d2_3 : decode jdk_42_method_3_code 3 = .ok (.aload_n 1, 1) := by decide +kernel
theorem d2_4 : decode jdk_42_method_3_code 4 = .ok (.arraylength, 1) := by decide +kernel
theorem d2_5 : decode jdk_42_method_3_code 5 = .ok (.aconst_null, 1) := by decide +kernel
theorem d2_6 : decode jdk_42_method_3_code 6 = .ok (.invokespecial 27, 3) := by decide +kernel
theorem d2_9 : decode jdk_42_method_3_code 9 = .ok (.return_, 1) := by decide +kernel
theorem d3_0 : decode jdk_42_method_149_code 0 = .ok (.aload_n 0, 1) := by decide +kernel
theorem d3_1 : decode jdk_42_method_149_code 1 = .ok (.invokespecial 1, 3) := by decide +kernel
theorem d3_4 : decode jdk_42_method_149_code 4 = .ok (.iload_n 3, 1) := by decide +kernel
theorem d3_5 : decode jdk_42_method_149_code 5 = .ok (.ifCond .ne 22, 3) := by decide +kernel
theorem d3_8 : decode jdk_42_method_149_code 8 = .ok (.aload_n 0, 1) := by decide +kernel
theorem d3_9 : decode jdk_42_method_149_code 9 = .ok (.ldc 7, 2) := by decide +kernel
theorem d3_11 : decode jdk_42_method_149_code 11 = .ok (.getfield 9, 3) := by decide +kernel
theorem d3_14 : decode jdk_42_method_149_code 14 = .ok (.putfield 9, 3) := by decide +kernel
theorem d3_17 : decode jdk_42_method_149_code 17 = .ok (.aload_n 0, 1) := by decide +kernel
theorem d3_18 : decode jdk_42_method_149_code 18 = .ok (.ldc 7, 2) := by decide +kernel
theorem d3_20 : decode jdk_42_method_149_code 20 = .ok (.getfield 15, 3) := by decide +kernel
theorem d3_23 : decode jdk_42_method_149_code 23 = .ok (.putfield 15, 3) := by decide +kernel
theorem d3_26 : decode jdk_42_method_149_code 26 = .ok (.return_, 1) := by decide +kernel
theorem d8_0 : decode prog_15_method_3_code 0 = .ok (.new 8, 3) := by decide +kernel
theorem d8_3 : decode prog_15_method_3_code 3 = .ok (.dup, 1) := by decide +kernel
theorem d8_4 : decode prog_15_method_3_code 4 = .ok (.getstatic 25, 3) := by decide +kernel
theorem d8_7 : decode prog_15_method_3_code 7 = .ok (.aload_n 0, 1) := by decide +kernel
theorem d8_8 : decode prog_15_method_3_code 8 = .ok (.invokespecial 22, 3) := by decide +kernel
theorem d8_11 : decode prog_15_method_3_code 11 = .ok (.areturn, 1) := by decide +kernel
theorem d9_0 : decode prog_15_method_1_code 0 = .ok (.aload_n 0, 1) := by decide +kernel
theorem d9_1 : decode prog_15_method_1_code 1 = .ok (.invokespecial 1, 3) := by decide +kernel
theorem d9_4 : decode prog_15_method_1_code 4 = .ok (.aload_n 0, 1) := by decide +kernel
theorem d9_5 : decode prog_15_method_1_code 5 = .ok (.aload_n 1, 1) := by decide +kernel
theorem d9_6 : decode prog_15_method_1_code 6 = .ok (.putfield 7, 3) := by decide +kernel
theorem d9_9 : decode prog_15_method_1_code 9 = .ok (.aload_n 0, 1) := by decide +kernel
theorem d9_10 : decode prog_15_method_1_code 10 = .ok (.aload_n 2, 1) := by decide +kernel
theorem d9_11 : decode prog_15_method_1_code 11 = .ok (.putfield 13, 3) := by decide +kernel
theorem d9_14 : decode prog_15_method_1_code 14 = .ok (.return_, 1) := by decide +kernel
theorem d10_0 : decode jdk_30_method_1_code 0 = .ok (.aload_n 0, 1) := by decide +kernel
theorem d10_1 : decode jdk_30_method_1_code 1 = .ok (.invokespecial 1, 3) := by decide +kernel
theorem d10_4 : decode jdk_30_method_1_code 4 = .ok (.return_, 1) := by decide +kernel
theorem d11_0 : decode prog_15_method_7_code 0 = .ok (.aload_n 0, 1) := by decide +kernel
theorem d11_1 : decode prog_15_method_7_code 1 = .ok (.getfield 7, 3) := by decide +kernel
theorem d11_4 : decode prog_15_method_7_code 4 = .ok (.areturn, 1) := by decide +kernel
theorem d12_0 : decode prog_15_method_8_code 0 = .ok (.aload_n 0, 1) := by decide +kernel
theorem d12_1 : decode prog_15_method_8_code 1 = .ok (.getfield 13, 3) := by decide +kernel
theorem d12_4 : decode prog_15_method_8_code 4 = .ok (.areturn, 1) := by decide +kernel
theorem d15_0 : decode jdk_42_method_66_code 0 = .ok (.aload_n 0, 1) := by decide +kernel
theorem d15_1 : decode jdk_42_method_66_code 1 = .ok (.aload_n 1, 1) := by decide +kernel
theorem d15_2 : decode jdk_42_method_66_code 2 = .ok (.if_acmp .ne 5, 3) := by decide +kernel
theorem d15_5 : decode jdk_42_method_66_code 5 = .ok (.iconst 1, 1) := by decide +kernel
theorem d15_6 : decode jdk_42_method_66_code 6 = .ok (.ireturn, 1) := by decide +kernel
theorem pd0 : parseMethodDescriptor "([CIILjava/lang/Void;)V" = some ⟨[(.array .char), .int, .int, (.object "java/lang/Void")], none⟩ := by decide +kernel
theorem pd1 : parseMethodDescriptor "([C)V" = some ⟨[(.array .char)], none⟩ := by decide +kernel
theorem pd2 : parseMethodDescriptor "()V" = some ⟨[], none⟩ := by decide +kernel
theorem pd3 : parseMethodDescriptor "(Lcom/example/nuntius/nuntius/http/ParameterValue$Kind;Ljava/lang/String;)V" = some ⟨[(.object "com/example/nuntius/nuntius/http/ParameterValue$Kind"), (.object "java/lang/String")], none⟩ := by decide +kernel
theorem pd4 : parseMethodDescriptor "(IIII)Ljava/lang/String;" = some ⟨[.int, .int, .int, .int], some (.object "java/lang/String")⟩ := by decide +kernel
theorem pd5 : parseMethodDescriptor "(Ljava/lang/String;)Lcom/example/nuntius/nuntius/http/ParameterValue;" = some ⟨[(.object "java/lang/String")], some (.object "com/example/nuntius/nuntius/http/ParameterValue")⟩ := by decide +kernel
theorem pd6 : parseMethodDescriptor "()Lcom/example/nuntius/nuntius/http/ParameterValue$Kind;" = some ⟨[], some (.object "com/example/nuntius/nuntius/http/ParameterValue$Kind")⟩ := by decide +kernel
theorem pd7 : parseMethodDescriptor "()Ljava/lang/String;" = some ⟨[], some (.object "java/lang/String")⟩ := by decide +kernel
theorem pd8 : parseMethodDescriptor "()I" = some ⟨[], some .int⟩ := by decide +kernel
theorem pd9 : parseMethodDescriptor "(Ljava/lang/Object;)Z" = some ⟨[(.object "java/lang/Object")], some .boolean⟩ := by decide +kernel
theorem ef0 (m : MethodId) (x0 : Addr) (x1 : Addr) : entryFrame m #[(.ref x0), (.ref x1)] 3 = mkF m 0 #[.val (.ref x0), .val (.ref x1), .unset] [] := by first | (simp [entryFrame, mkF, argsToLocals, cat_int, cat_long, cat_refv, cat_null]; done) | rfl
theorem ef1 (m : MethodId) (x0 : Addr) (x1 : Addr) (x2 : Int32) (x3 : Int32) : entryFrame m #[(.ref x0), (.ref x1), (.int x2), (.int x3), .null] 6 = mkF m 0 #[.val (.ref x0), .val (.ref x1), .val (.int x2), .val (.int x3), .val .null, .unset] [] := by first | (simp [entryFrame, mkF, argsToLocals, cat_int, cat_long, cat_refv, cat_null]; done) | rfl
theorem ef2 (m : MethodId) (x0 : Addr) (x1 : Addr) : entryFrame m #[(.ref x0), (.ref x1)] 2 = mkF m 0 #[.val (.ref x0), .val (.ref x1)] [] := by first | (simp [entryFrame, mkF, argsToLocals, cat_int, cat_long, cat_refv, cat_null]; done) | rfl
theorem ef3 (m : MethodId) (x0 : Addr) : entryFrame m #[(.ref x0)] 1 = mkF m 0 #[.val (.ref x0)] [] := by first | (simp [entryFrame, mkF, argsToLocals, cat_int, cat_long, cat_refv, cat_null]; done) | rfl
theorem ef4 (m : MethodId) (x0 : Int32) (x1 : Int32) (x2 : Int32) (x3 : Int32) : entryFrame m #[(.int x0), (.int x1), (.int x2), (.int x3)] 7 = mkF m 0 #[.val (.int x0), .val (.int x1), .val (.int x2), .val (.int x3), .unset, .unset, .unset] [] := by first | (simp [entryFrame, mkF, argsToLocals, cat_int, cat_long, cat_refv, cat_null]; done) | rfl
theorem ef5 (m : MethodId) (x0 : Addr) (x1 : Value) (c1 : x1.category = 1) (x2 : Value) (c2 : x2.category = 1) : entryFrame m #[(.ref x0), x1, x2] 3 = mkF m 0 #[.val (.ref x0), .val x1, .val x2] [] := by first | (simp [entryFrame, mkF, argsToLocals, cat_int, cat_long, cat_refv, cat_null, c1, c2]; done) | rfl
theorem ef6 (m : MethodId) (x0 : Int32) (x1 : Int32) (x2 : Int32) (x3 : Int32) : entryFrame m #[(.int x0), (.int x1), (.int x2), (.int x3)] maxLocals = mkF m 0 #[.val (.int x0), .val (.int x1), .val (.int x2), .val (.int x3), .unset, .unset, .unset, .unset] [] := by first | (simp [entryFrame, mkF, argsToLocals, cat_int, cat_long, cat_refv, cat_null, maxLocals]; done) | rfl
theorem own_n {v p : Int32} (h : v = OwnKit.i2c (p &&& (255 : Int32))) : C8 v := h ▸ i2c_c8 p
def mkL (n a b c : Int32) : List Int32 := if n = 0 then [] else if n = 1 then [OwnKit.i2c (a &&& (255 : Int32))] else if n = 2 then [OwnKit.i2c (a &&& (255 : Int32)), OwnKit.i2c (b &&& (255 : Int32))] else [OwnKit.i2c (a &&& (255 : Int32)), OwnKit.i2c (b &&& (255 : Int32)), OwnKit.i2c (c &&& (255 : Int32))]
theorem m4 (x : Int32) : x &&& (3 : Int32) = 0 ∨ x &&& (3 : Int32) = 1 ∨ x &&& (3 : Int32) = 2 ∨ x &&& (3 : Int32) = 3 := by
  have h1 : (x &&& (3 : Int32)).toInt = x.toInt % 2 ^ 2 := Jvm.Kit.i32_mask x 3 (k := 2) (by decide) (by decide)
  have q : (x &&& (3 : Int32)).toInt = 0 ∨ (x &&& (3 : Int32)).toInt = 1 ∨ (x &&& (3 : Int32)).toInt = 2 ∨ (x &&& (3 : Int32)).toInt = 3 := by rw [h1]; omega
  rcases q with q | q | q | q
  · exact Or.inl (Int32.toInt_inj.mp (q.trans rfl))
  · exact Or.inr (Or.inl (Int32.toInt_inj.mp (q.trans rfl)))
  · exact Or.inr (Or.inr (Or.inl (Int32.toInt_inj.mp (q.trans rfl))))
  · exact Or.inr (Or.inr (Or.inr (Int32.toInt_inj.mp (q.trans rfl))))
theorem own_len {n x a b c : Int32} (h : n = x &&& (3 : Int32)) : (Int32.ofNat (mkL n a b c).length) = n := by
  have q := m4 x
  rw [← h] at q
  rcases q with rfl | rfl | rfl | rfl <;> rfl
def QEqI (Z : State) (a : Addr) (h0 : Heap) : Option Value → Heap → Prop := fun v h => v = some (.int 1) ∧ h = h0
set_option maxRecDepth 65536 in
set_option maxHeartbeats 40000000 in
theorem rmEqI (l : Launch) (Z : State) (a0 : Array Value) (hw : ∀ d ∈ tables_1, d.before a0 Z = true) (a : Addr) (h0 : Heap) (O : Ext Z.heap h0) :
    CN [] l Z (⟨"java/lang/String", "equals", "(Ljava/lang/Object;)Z"⟩ : MethodName) jdk_42_method_66_code 3 (Option.some Jvm.ClassFile.FieldType.boolean) ({ frames := 0, cells := 0, slots := 0, locals := 0 } : Room) #[(.ref a), (.ref a)] h0 [] (QEqI Z a h0) := by
  refine CN.of_walk (plainFor_of_name pn0) O (fun _ q => nomatch q) ?_
  intro p e s m below meth c T0 W0 hx hby hml hoZ hnm hret hlk
  have H0 := W0.here; have hz0 := W0.zsize
  refine Goes.cast (ef0 m a a) ?_
  refine G.aloadN H0 hx 1 (hb hby d15_0) rfl rfl rfl ?_
  refine G.aloadN H0 hx 2 (hb hby d15_1) rfl rfl rfl ?_
  refine G.acmpN H0 hx 5 (hb hby d15_2) rfl rfl (by (simp [XT.acmp]) /- false -/) rfl ?_
  refine G.iconst H0 hx 6 (1 : Int32) (hb hby d15_5) rfl rfl ?_
  exact Wk.retN W0 hx (1 : Int32) (t := .boolean) rfl (by simp) hret hlk (hb hby d15_6) (by decide) (by decide) ⟨rfl, rfl⟩
def QEm4 (Z : State) (a : Addr) (b : Addr) (h0 : Heap) : Option Value → Heap → Prop := fun v h => v = none ∧ SV Z h a []
set_option maxRecDepth 65536 in
set_option maxHeartbeats 40000000 in
theorem rmEm4 (l : Launch) (Z : State) (a0 : Array Value) (hw : ∀ d ∈ tables_1, d.before a0 Z = true) (a : Addr) (b : Addr) (h0 : Heap) (O : Ext Z.heap h0) (gz_a : Z.heap.size ≤ a) (Ea : Exa Z h0 a "java/lang/String") (Fv : Fld Z h0 a "java/lang/String" "value" "[B" .null) (Fc : Fld Z h0 a "java/lang/String" "coder" "B" (.int 0)) :
    CW [] l Z consts_1 (⟨"java/lang/String", "<init>", "([CIILjava/lang/Void;)V"⟩ : MethodName) jdk_42_method_149_code 6 (Option.none : Option Jvm.ClassFile.FieldType) ({ frames := 1, cells := 4, slots := 8, locals := 14 } : Room) #[(.ref a), (.ref b), (.int (0 : Int32)), (.int (0 : Int32)), .null] h0 [a] (QEm4 Z a b h0) := by
  refine CW.of_walk (plainFor_of_name pn0) O (ala gz_a ala0) ?_
  intro p e s m below meth c T0 W0 hsf hx hby hml hoZ hnm hret hlk
  have H0 := W0.here; have hz0 := W0.zsize; have hEL := elw hw
  refine Goes.cast (ef1 m a b (0 : Int32) (0 : Int32)) ?_
  have la := ltN Ea.lt
  refine G.aloadN H0 hx 1 (hb hby d3_0) rfl rfl rfl ?_
  refine Wk.initO W0 hx hoZ (wd hw 15 rfl) (wd hw 16 rfl) (wd hw 17 rfl) (by rw [hml]; rfl) 4 (hb hby d3_1) rfl (by decide) 0 (Nat.le_of_eq rfl) (by decide) ?_
  intro T1 W1; have H1 := W1.here
  refine G.iloadN H1 hx 5 (hb hby d3_4) rfl rfl ?_
  refine G.ifN H1 hx 8 (hb hby d3_5) (zeq (by decide)).2 rfl ?_
  refine G.aloadN H1 hx 9 (hb hby d3_8) rfl rfl rfl ?_
  refine Wk.ldcE W1 hx hoZ (text := "") (wd hw 82 rfl) (wsStr hw) hEL (by decide) (vs := []) (z := 0) ⟨by decide, by decide⟩ (by decide) (by decide) 11 (hb hby d3_9) rfl 0 (by decide) (by decide) (by decide) (by decide) ?_
  intro vm2 T2 h2 a2 b2 k2 W2 E2 Ch2 X2 F2c F2v V2 sep2
  have H2 := W2.here; have z2 := E2.1; have l2 := ltN X2.lt; have m2 := ltN V2.lt
  obtain ⟨nA2_a, nB2_a⟩ := sep2 a (Ch2.safe (ltA (by omega)) (hsf a (by simp)))
  have pA2_a := neN nA2_a; have pB2_a := neN nB2_a
  refine Wk.getF W2 hx hoZ (host := "") (Or.inl (wd hw 32 rfl)) Via.refl F2v 14 (hb hby d3_11) rfl ?_
  intro T3 W3; have H3 := W3.here
  refine Wk.putF W3 hx hoZ (wd hw 32 rfl) Via.refl (.ref b2) (Fv.ext E2) (Ea.ext E2) (Or.inr ⟨(wd hw 33 rfl), rfl, hnm⟩) (wd hw 5 rfl) (ty := (.array .byte)) (by decide) rfl rfl (Or.inl (by simp)) (Ch2.safe (ltA (by omega)) (hsf a (by simp))) 17 (hb hby d3_14) rfl ?_
  intro T4 h4 W4 R4 Ch4; have H4 := W4.here; have z4 := R4.size
  have F4 := ((Fv.ext E2)).same R4
  refine G.aloadN H4 hx 18 (hb hby d3_17) rfl rfl rfl ?_
  refine Wk.ldcE W4 hx hoZ (text := "") (wd hw 82 rfl) (wsStr hw) hEL (by decide) (vs := []) (z := 0) ⟨by decide, by decide⟩ (by decide) (by decide) 20 (hb hby d3_18) rfl 0 (by decide) (by decide) (by decide) (by decide) ?_
  intro vm5 T5 h5 a5 b5 k5 W5 E5 Ch5 X5 F5c F5v V5 sep5
  have H5 := W5.here; have z5 := E5.1; have l5 := ltN X5.lt; have m5 := ltN V5.lt
  obtain ⟨nA5_a, nB5_a⟩ := sep5 a (Ch5.safe (ltA (by omega)) (Ch4.safe (ltA (by omega)) (Ch2.safe (ltA (by omega)) (hsf a (by simp)))))
  have pA5_a := neN nA5_a; have pB5_a := neN nB5_a
  refine Wk.getF W5 hx hoZ (host := "") (Or.inl (wd hw 30 rfl)) Via.refl F5c 23 (hb hby d3_20) rfl ?_
  intro T6 W6; have H6 := W6.here
  refine Wk.putF W6 hx hoZ (wd hw 30 rfl) Via.refl (.int (0 : Int32)) (((Fc.ext E2).other R4 (Or.inr (slot_ne (Or.inr (wd hw 31 rfl)) (Or.inr (wd hw 33 rfl)) (by decide) (t := .byte) (t' := (.array .byte)) (by decide) (by decide)))).ext E5) (((Ea.ext E2).wr R4).ext E5) (Or.inr ⟨(wd hw 31 rfl), rfl, hnm⟩) (wd hw 5 rfl) (ty := .byte) (by decide) rfl rfl (Or.inl (by simp)) (Ch5.safe (ltA (by omega)) (Ch4.safe (ltA (by omega)) (Ch2.safe (ltA (by omega)) (hsf a (by simp))))) 26 (hb hby d3_23) rfl ?_
  intro T7 h7 W7 R7 Ch7; have H7 := W7.here; have z7 := R7.size
  have F7 := ((((Fc.ext E2).other R4 (Or.inr (slot_ne (Or.inr (wd hw 31 rfl)) (Or.inr (wd hw 33 rfl)) (by decide) (t := .byte) (t' := (.array .byte)) (by decide) (by decide)))).ext E5)).same R7
  exact Wk.retVW W7 hx hEL hret hlk (hb hby d3_26) (by decide) (by decide) ⟨rfl, ((((Ea.ext E2).wr R4).ext E5).wr R7), 0, _, _, 0, [], F7, ((F4.ext E5).other R7 (Or.inr (slot_ne (Or.inr (wd hw 33 rfl)) (Or.inr (wd hw 31 rfl)) (by decide) (t := (.array .byte)) (t' := .byte) (by decide) (by decide)))), (((V2.other R4 (neA (by omega))).ext E5).other R7 (neA (by omega))), Or.inl ⟨rfl, rfl, rfl, ala0⟩, ala0, by decide⟩
def QEm1 (Z : State) (a : Addr) (b : Addr) (kb : ClassId) (h0 : Heap) : Option Value → Heap → Prop := fun v h => v = none ∧ SV Z h a []
set_option maxRecDepth 65536 in
set_option maxHeartbeats 40000000 in
theorem rmEm1 (l : Launch) (Z : State) (a0 : Array Value) (hw : ∀ d ∈ tables_1, d.before a0 Z = true) (a : Addr) (b : Addr) (kb : ClassId) (h0 : Heap) (O : Ext Z.heap h0) (gz_a : Z.heap.size ≤ a) (Ea : Exa Z h0 a "java/lang/String") (Fv : Fld Z h0 a "java/lang/String" "value" "[B" .null) (Fc : Fld Z h0 a "java/lang/String" "coder" "B" (.int 0)) (Vb : Arv Z h0 b kb .char 0 [] (.int 0)) :
    CW [] l Z consts_1 (⟨"java/lang/String", "<init>", "([C)V"⟩ : MethodName) jdk_42_method_3_code 2 (Option.none : Option Jvm.ClassFile.FieldType) ({ frames := 2, cells := 4, slots := 8, locals := 32 } : Room) #[(.ref a), (.ref b)] h0 [a] (QEm1 Z a b kb h0) := by
  refine CW.of_walk (plainFor_of_name pn0) O (ala gz_a ala0) ?_
  intro p e s m below meth c T0 W0 hsf hx hby hml hoZ hnm hret hlk
  have H0 := W0.here; have hz0 := W0.zsize; have hEL := elw hw
  refine Goes.cast (ef2 m a b) ?_
  have la := ltN Ea.lt
  refine G.aloadN H0 hx 1 (hb hby d2_0) rfl rfl rfl ?_
  refine G.aloadN H0 hx 2 (hb hby d2_1) rfl rfl rfl ?_
  refine G.iconst H0 hx 3 (0 : Int32) (hb hby d2_2) rfl rfl ?_
  refine G.aloadN H0 hx 4 (hb hby d2_3) rfl rfl rfl ?_
  refine Wk.arraylength W0 hx Vb 5 (hb hby d2_4) rfl ?_
  refine G.aconstNull H0 hx 6 (hb hby d2_5) rfl ?_
  refine Wk.specialW W0 hx hoZ (y := (⟨"java/lang/String", "<init>", "([CIILjava/lang/Void;)V"⟩ : MethodName)) rfl (wd hw 11 rfl) (wd hw 12 rfl) (wd hw 14 rfl) (by decide) (Wd := 0) (CW.back (rmEm4 l Z a0 hw a b h0 W0.old (by omega) Ea Fv Fc) W0.warm (wd hw 14 rfl) (wd hw 6 rfl) (by decide) (by decide) hEL W0.ch (all1 (by omega)) (ala (hsf a (by simp)) ala0)) a (by rw [hml]; rfl) [(.ref b), (.int (0 : Int32)), (.int (0 : Int32)), .null] [] (lenOf pd0 rfl) rfl rfl (Nat.le_of_eq rfl) 9 (hb hby d2_6) rfl (by decide) (by decide) (hws1 (Or.inl (by simp)) (hsf a (by simp))) ?_
  intro v1 vm1 T1 h1 W1 K1 Ch1 Q1
  have H1 := W1.here; have z1 := K1.1
  obtain ⟨rfl, Sv1⟩ := Q1
  show Goes p e below (PostW s Z consts_1 h0 [a] (QEm1 Z a b kb h0) ({ frames := 2, cells := 4, slots := 8, locals := 32 } : Room).cells ({ frames := 2, cells := 4, slots := 8, locals := 32 } : Room).slots) (T1.setTop (mkF m 9 #[.val (.ref a), .val (.ref b)] []))
  exact Wk.retVW W1 hx hEL hret hlk (hb hby d2_9) (by decide) (by decide) ⟨rfl, Sv1⟩
def QRec (Z : State) (a : Addr) (h0 : Heap) : Option Value → Heap → Prop := fun v h => v = none ∧ h = h0
set_option maxRecDepth 65536 in
set_option maxHeartbeats 40000000 in
theorem rmRec (l : Launch) (Z : State) (a0 : Array Value) (hw : ∀ d ∈ tables_1, d.before a0 Z = true) (a : Addr) (h0 : Heap) (O : Ext Z.heap h0) :
    CN [] l Z (⟨"java/lang/Record", "<init>", "()V"⟩ : MethodName) jdk_30_method_1_code 1 (Option.none : Option Jvm.ClassFile.FieldType) ({ frames := 1, cells := 0, slots := 0, locals := 12 } : Room) #[(.ref a)] h0 [] (QRec Z a h0) := by
  refine CN.of_walk (plainFor_of_name pn1) O (fun _ q => nomatch q) ?_
  intro p e s m below meth c T0 W0 hx hby hml hoZ hnm hret hlk
  have H0 := W0.here; have hz0 := W0.zsize
  refine Goes.cast (ef3 m a) ?_
  refine G.aloadN H0 hx 1 (hb hby d10_0) rfl rfl rfl ?_
  refine Wk.initO W0 hx hoZ (wd hw 51 rfl) (wd hw 16 rfl) (wd hw 17 rfl) (by rw [hml]; rfl) 4 (hb hby d10_1) rfl (by decide) 0 (Nat.le_of_eq rfl) (by decide) ?_
  intro T1 W1; have H1 := W1.here
  exact Wk.retV W1 hx hret hlk (hb hby d10_4) (by decide) (by decide) ⟨rfl, rfl⟩
def QMk (Z : State) (cz : Int32) (x0 : Int32) (x1 : Int32) (x2 : Int32) (x3 : Int32) (h0 : Heap) : Option Value → Heap → Prop := fun v h => ∃ a : Addr, v = some (.ref a) ∧ h0.size ≤ a ∧ SV Z h a (mkL x0 x1 x2 x3)
set_option maxRecDepth 65536 in
set_option maxHeartbeats 40000000 in
theorem rmMk (l : Launch) (Z : State) (a0 : Array Value) (hw : ∀ d ∈ tables_1, d.before a0 Z = true) (cz : Int32) (x0 : Int32) (x1 : Int32) (x2 : Int32) (x3 : Int32) (h0 : Heap) (O : Ext Z.heap h0) (hCS : Sta Z Z.heap "java/lang/String" "COMPACT_STRINGS" "Z" (.int cz)) (hcz : ¬ cz = 0) :
    CW [] l Z consts_1 (⟨"com/example/nuntius/nuntius/http/ParameterValueNumberPinLaw", "drawn", "(IIII)Ljava/lang/String;"⟩ : MethodName) method_2_code 7 (Option.some (Jvm.ClassFile.FieldType.object "java/lang/String")) ({ frames := 4, cells := 6, slots := 12, locals := 68 } : Room) #[(.int x0), (.int x1), (.int x2), (.int x3)] h0 [] (QMk Z cz x0 x1 x2 x3 h0) := by
  refine CW.of_walk (plainFor_of_name pn2) O (fun _ q => nomatch q) ?_
  intro p e s m below meth c T0 W0 hsf hx hby hml hoZ hnm hret hlk
  have H0 := W0.here; have hz0 := W0.zsize; have hEL := elw hw
  refine Goes.cast (ef4 m x0 x1 x2 x3) ?_
  refine G.iloadN H0 hx 1 (hb hby d1_0) rfl rfl ?_
  refine G.sipush H0 hx 4 (255 : Int32) (hb hby d1_1) rfl rfl ?_
  refine G.iand H0 hx 5 (hb hby d1_4) rfl ?_
  refine G.i2c H0 hx 6 (hb hby d1_5) rfl ?_
  refine G.istore H0 hx 8 (fun v => #[.val (.int x0), .val (.int x1), .val (.int x2), .val (.int x3), .val (.int v), .unset, .unset]) (hb hby d1_6) (fun _ => rfl) rfl ?_
  intro v1 hv1
  refine G.iloadN H0 hx 9 (hb hby d1_8) rfl rfl ?_
  refine G.sipush H0 hx 12 (255 : Int32) (hb hby d1_9) rfl rfl ?_
  refine G.iand H0 hx 13 (hb hby d1_12) rfl ?_
  refine G.i2c H0 hx 14 (hb hby d1_13) rfl ?_
  refine G.istore H0 hx 16 (fun v => #[.val (.int x0), .val (.int x1), .val (.int x2), .val (.int x3), .val (.int v1), .val (.int v), .unset]) (hb hby d1_14) (fun _ => rfl) rfl ?_
  intro v2 hv2
  refine G.iloadN H0 hx 17 (hb hby d1_16) rfl rfl ?_
  refine G.sipush H0 hx 20 (255 : Int32) (hb hby d1_17) rfl rfl ?_
  refine G.iand H0 hx 21 (hb hby d1_20) rfl ?_
  refine G.i2c H0 hx 22 (hb hby d1_21) rfl ?_
  refine G.istore H0 hx 24 (fun v => #[.val (.int x0), .val (.int x1), .val (.int x2), .val (.int x3), .val (.int v1), .val (.int v2), .val (.int v)]) (hb hby d1_22) (fun _ => rfl) rfl ?_
  intro v3 hv3
  refine G.iloadN H0 hx 25 (hb hby d1_24) rfl rfl ?_
  by_cases c25_4 : x0 = 0
  ·
    refine G.ifN H0 hx 28 (hb hby d1_25) (zeq c25_4).2 rfl ?_
    refine Wk.newO W0 hx hoZ (wd hw 4 rfl) (wd hw 5 rfl) (wd hw 6 rfl) 31 (hb hby d1_28) rfl (by decide) (by decide) ?_
    intro T5 h5 a5 W5 E5 g5 A5 D5 S5
    have H5 := W5.here; have z5 := E5.1; have gu5 := Nat.le_of_eq g5; have gt5 := Nat.le_of_eq g5.symm; have l5 := ltN A5.lt
    refine G.dup H5 hx 32 (hb hby d1_31) rfl rfl ?_
    refine G.iconst H5 hx 33 (0 : Int32) (hb hby d1_32) rfl rfl ?_
    refine Wk.newP W5 hx (wd hw 7 rfl) 35 (hb hby d1_33) (by decide) 0 (by decide) rfl (by decide) (by decide) (by decide) ?_
    intro T6 h6 a6 k6 W6 E6 g6 V6 S6
    have H6 := W6.here; have z6 := E6.1; have gu6 := Nat.le_of_eq g6; have gt6 := Nat.le_of_eq g6.symm; have l6 := ltN V6.lt
    have V6 : Arv Z h6 a6 k6 .char (0 : Int32) [] (.int (0 : Int32)) := V6
    refine Wk.specialW W6 hx hoZ (y := (⟨"java/lang/String", "<init>", "([C)V"⟩ : MethodName)) rfl (wd hw 8 rfl) (wd hw 9 rfl) (wd hw 10 rfl) (by decide) (Wd := 1) (CW.back (rmEm1 l Z a0 hw a5 a6 k6 h6 W6.old (by omega) (A5.ext E6) ((D5 (Or.inr (wd hw 33 rfl)) (ty := (.array .byte)) (by decide)).ext E6) ((D5 (Or.inr (wd hw 31 rfl)) (ty := .byte) (by decide)).ext E6) V6) W6.warm (wd hw 10 rfl) (wd hw 6 rfl) (by decide) (by decide) hEL W6.ch (all1 (by omega)) (ala ((CHr.ext E6 W5.ch).safe (ltA (by omega)) S5) ala0)) a5 (by rw [hml]; rfl) [(.ref a6)] [(.ref a5)] (lenOf pd1 rfl) rfl rfl (Nat.le_of_eq rfl) 38 (hb hby d1_35) rfl (by decide) (by decide) (hws1 (Or.inr (by omega)) ((CHr.ext E6 W5.ch).safe (ltA (by omega)) S5)) ?_
    intro v7 vm7 T7 h7 W7 K7 Ch7 Q7
    have H7 := W7.here; have z7 := K7.1
    obtain ⟨rfl, Sv7⟩ := Q7
    show Goes p e below (PostW s Z consts_1 h0 [] (QMk Z cz x0 x1 x2 x3 h0) ({ frames := 4, cells := 6, slots := 12, locals := 68 } : Room).cells ({ frames := 4, cells := 6, slots := 12, locals := 68 } : Room).slots) (T7.setTop (mkF m 38 #[.val (.int x0), .val (.int x1), .val (.int x2), .val (.int x3), .val (.int v1), .val (.int v2), .val (.int v3)] [(.ref a5)]))
    exact Wk.retAW W7 hx hEL (t := (.object "java/lang/String")) rfl rfl hret hlk (hb hby d1_38) (by decide) (by decide) ⟨_, rfl, by omega, by have q := Sv7; simp only [mkL, ← hv1, ← hv2, ← hv3]; simpa [c25_4] using q⟩
  ·
    refine G.ifY H0 hx 39 (hb hby d1_25) (zne c25_4).2 (by decide) rfl ?_
    refine G.iloadN H0 hx 40 (hb hby d1_39) rfl rfl ?_
    refine G.iconst H0 hx 41 (1 : Int32) (hb hby d1_40) rfl rfl ?_
    by_cases c41_8 : x0 = (1 : Int32)
    ·
      refine G.icmpN H0 hx 44 (hb hby d1_41) (teq c41_8).2 rfl ?_
      refine Wk.newO W0 hx hoZ (wd hw 4 rfl) (wd hw 5 rfl) (wd hw 6 rfl) 47 (hb hby d1_44) rfl (by decide) (by decide) ?_
      intro T9 h9 a9 W9 E9 g9 A9 D9 S9
      have H9 := W9.here; have z9 := E9.1; have gu9 := Nat.le_of_eq g9; have gt9 := Nat.le_of_eq g9.symm; have l9 := ltN A9.lt
      refine G.dup H9 hx 48 (hb hby d1_47) rfl rfl ?_
      refine G.iconst H9 hx 49 (1 : Int32) (hb hby d1_48) rfl rfl ?_
      refine Wk.newP W9 hx (wd hw 7 rfl) 51 (hb hby d1_49) (by decide) 1 (by decide) rfl (by decide) (by decide) (by decide) ?_
      intro T10 h10 a10 k10 W10 E10 g10 V10 S10
      have H10 := W10.here; have z10 := E10.1; have gu10 := Nat.le_of_eq g10; have gt10 := Nat.le_of_eq g10.symm; have l10 := ltN V10.lt
      have V10 : Arv Z h10 a10 k10 .char (1 : Int32) [(.int (0 : Int32))] (.int (0 : Int32)) := V10
      refine G.dup H10 hx 52 (hb hby d1_51) rfl rfl ?_
      refine G.iconst H10 hx 53 (0 : Int32) (hb hby d1_52) rfl rfl ?_
      refine G.iload H10 hx 55 (hb hby d1_53) rfl rfl ?_
      refine Wk.castore W10 hx V10 (Or.inr (by omega)) v1 (nar_c16 (own_n hv1).up) 0 rfl ⟨by decide, by decide⟩ (Nat.le_of_ble_eq_true rfl) 56 (hb hby d1_55) rfl ?_
      intro T11 h11 W11 K11 Ch11 V11; have H11 := W11.here; have z11 := K11.1
      have V11 : Arv Z h11 a10 k10 .char (1 : Int32) [(.int v1)] (.int (0 : Int32)) := V11
      refine Wk.special W11 hx hoZ (y := (⟨"java/lang/String", "<init>", "([C)V"⟩ : MethodName)) rfl (wd hw 8 rfl) (wd hw 9 rfl) (wd hw 10 rfl) (by decide) (Wd := 1) (newS W11.warm (wsNew hw) (wd hw 5 rfl) W11.old (by omega) ((A9.ext E10).keep K11) (((D9 (Or.inr (wd hw 33 rfl)) (ty := (.array .byte)) (by decide)).ext E10).keep K11 (ninS (neA (by omega)) nin0)) (((D9 (Or.inr (wd hw 31 rfl)) (ty := .byte) (by decide)).ext E10).keep K11 (ninS (neA (by omega)) nin0)) (cs := [v1]) V11 hCS hcz 1 rfl rfl (by decide) (by decide) (ala (own_n hv1) (ala0)) (by decide) (by decide)) a9 (by rw [hml]; rfl) [(.ref a10)] [(.ref a9)] (lenOf pd1 rfl) rfl rfl (Nat.le_of_eq rfl) 59 (hb hby d1_56) rfl (by decide) (by decide) (hws1 (Or.inr (by omega)) (Ch11.safe (ltA (by omega)) ((CHr.ext E10 W9.ch).safe (ltA (by omega)) S9))) ?_
      intro v12 T12 h12 W12 K12 Ch12 Q12
      have H12 := W12.here; have z12 := K12.1
      obtain ⟨rfl, Sv12⟩ := Q12
      show Goes p e below (PostW s Z consts_1 h0 [] (QMk Z cz x0 x1 x2 x3 h0) ({ frames := 4, cells := 6, slots := 12, locals := 68 } : Room).cells ({ frames := 4, cells := 6, slots := 12, locals := 68 } : Room).slots) (T12.setTop (mkF m 59 #[.val (.int x0), .val (.int x1), .val (.int x2), .val (.int x3), .val (.int v1), .val (.int v2), .val (.int v3)] [(.ref a9)]))
      exact Wk.retAW W12 hx hEL (t := (.object "java/lang/String")) rfl rfl hret hlk (hb hby d1_59) (by decide) (by decide) ⟨_, rfl, by omega, by have q := Sv12; simp only [mkL, ← hv1, ← hv2, ← hv3]; simpa [c25_4, c41_8] using q⟩
    ·
      refine G.icmpY H0 hx 60 (hb hby d1_41) (feq c41_8).2 (by decide) rfl ?_
      refine G.iloadN H0 hx 61 (hb hby d1_60) rfl rfl ?_
      refine G.iconst H0 hx 62 (2 : Int32) (hb hby d1_61) rfl rfl ?_
      by_cases c62_13 : x0 = (2 : Int32)
      ·
        refine G.icmpN H0 hx 65 (hb hby d1_62) (teq c62_13).2 rfl ?_
        refine Wk.newO W0 hx hoZ (wd hw 4 rfl) (wd hw 5 rfl) (wd hw 6 rfl) 68 (hb hby d1_65) rfl (by decide) (by decide) ?_
        intro T14 h14 a14 W14 E14 g14 A14 D14 S14
        have H14 := W14.here; have z14 := E14.1; have gu14 := Nat.le_of_eq g14; have gt14 := Nat.le_of_eq g14.symm; have l14 := ltN A14.lt
        refine G.dup H14 hx 69 (hb hby d1_68) rfl rfl ?_
        refine G.iconst H14 hx 70 (2 : Int32) (hb hby d1_69) rfl rfl ?_
        refine Wk.newP W14 hx (wd hw 7 rfl) 72 (hb hby d1_70) (by decide) 2 (by decide) rfl (by decide) (by decide) (by decide) ?_
        intro T15 h15 a15 k15 W15 E15 g15 V15 S15
        have H15 := W15.here; have z15 := E15.1; have gu15 := Nat.le_of_eq g15; have gt15 := Nat.le_of_eq g15.symm; have l15 := ltN V15.lt
        have V15 : Arv Z h15 a15 k15 .char (2 : Int32) [(.int (0 : Int32)), (.int (0 : Int32))] (.int (0 : Int32)) := V15
        refine G.dup H15 hx 73 (hb hby d1_72) rfl rfl ?_
        refine G.iconst H15 hx 74 (0 : Int32) (hb hby d1_73) rfl rfl ?_
        refine G.iload H15 hx 76 (hb hby d1_74) rfl rfl ?_
        refine Wk.castore W15 hx V15 (Or.inr (by omega)) v1 (nar_c16 (own_n hv1).up) 0 rfl ⟨by decide, by decide⟩ (Nat.le_of_ble_eq_true rfl) 77 (hb hby d1_76) rfl ?_
        intro T16 h16 W16 K16 Ch16 V16; have H16 := W16.here; have z16 := K16.1
        have V16 : Arv Z h16 a15 k15 .char (2 : Int32) [(.int v1), (.int (0 : Int32))] (.int (0 : Int32)) := V16
        refine G.dup H16 hx 78 (hb hby d1_77) rfl rfl ?_
        refine G.iconst H16 hx 79 (1 : Int32) (hb hby d1_78) rfl rfl ?_
        refine G.iload H16 hx 81 (hb hby d1_79) rfl rfl ?_
        refine Wk.castore W16 hx V16 (Or.inr (by omega)) v2 (nar_c16 (own_n hv2).up) 1 rfl ⟨by decide, by decide⟩ (Nat.le_of_ble_eq_true rfl) 82 (hb hby d1_81) rfl ?_
        intro T17 h17 W17 K17 Ch17 V17; have H17 := W17.here; have z17 := K17.1
        have V17 : Arv Z h17 a15 k15 .char (2 : Int32) [(.int v1), (.int v2)] (.int (0 : Int32)) := V17
        refine Wk.special W17 hx hoZ (y := (⟨"java/lang/String", "<init>", "([C)V"⟩ : MethodName)) rfl (wd hw 8 rfl) (wd hw 9 rfl) (wd hw 10 rfl) (by decide) (Wd := 1) (newS W17.warm (wsNew hw) (wd hw 5 rfl) W17.old (by omega) (((A14.ext E15).keep K16).keep K17) ((((D14 (Or.inr (wd hw 33 rfl)) (ty := (.array .byte)) (by decide)).ext E15).keep K16 (ninS (neA (by omega)) nin0)).keep K17 (ninS (neA (by omega)) nin0)) ((((D14 (Or.inr (wd hw 31 rfl)) (ty := .byte) (by decide)).ext E15).keep K16 (ninS (neA (by omega)) nin0)).keep K17 (ninS (neA (by omega)) nin0)) (cs := [v1, v2]) V17 hCS hcz 2 rfl rfl (by decide) (by decide) (ala (own_n hv1) (ala (own_n hv2) (ala0))) (by decide) (by decide)) a14 (by rw [hml]; rfl) [(.ref a15)] [(.ref a14)] (lenOf pd1 rfl) rfl rfl (Nat.le_of_eq rfl) 85 (hb hby d1_82) rfl (by decide) (by decide) (hws1 (Or.inr (by omega)) (Ch17.safe (ltA (by omega)) (Ch16.safe (ltA (by omega)) ((CHr.ext E15 W14.ch).safe (ltA (by omega)) S14)))) ?_
        intro v18 T18 h18 W18 K18 Ch18 Q18
        have H18 := W18.here; have z18 := K18.1
        obtain ⟨rfl, Sv18⟩ := Q18
        show Goes p e below (PostW s Z consts_1 h0 [] (QMk Z cz x0 x1 x2 x3 h0) ({ frames := 4, cells := 6, slots := 12, locals := 68 } : Room).cells ({ frames := 4, cells := 6, slots := 12, locals := 68 } : Room).slots) (T18.setTop (mkF m 85 #[.val (.int x0), .val (.int x1), .val (.int x2), .val (.int x3), .val (.int v1), .val (.int v2), .val (.int v3)] [(.ref a14)]))
        exact Wk.retAW W18 hx hEL (t := (.object "java/lang/String")) rfl rfl hret hlk (hb hby d1_85) (by decide) (by decide) ⟨_, rfl, by omega, by have q := Sv18; simp only [mkL, ← hv1, ← hv2, ← hv3]; simpa [c25_4, c41_8, c62_13] using q⟩
      ·
        refine G.icmpY H0 hx 86 (hb hby d1_62) (feq c62_13).2 (by decide) rfl ?_
        refine Wk.newO W0 hx hoZ (wd hw 4 rfl) (wd hw 5 rfl) (wd hw 6 rfl) 89 (hb hby d1_86) rfl (by decide) (by decide) ?_
        intro T19 h19 a19 W19 E19 g19 A19 D19 S19
        have H19 := W19.here; have z19 := E19.1; have gu19 := Nat.le_of_eq g19; have gt19 := Nat.le_of_eq g19.symm; have l19 := ltN A19.lt
        refine G.dup H19 hx 90 (hb hby d1_89) rfl rfl ?_
        refine G.iconst H19 hx 91 (3 : Int32) (hb hby d1_90) rfl rfl ?_
        refine Wk.newP W19 hx (wd hw 7 rfl) 93 (hb hby d1_91) (by decide) 3 (by decide) rfl (by decide) (by decide) (by decide) ?_
        intro T20 h20 a20 k20 W20 E20 g20 V20 S20
        have H20 := W20.here; have z20 := E20.1; have gu20 := Nat.le_of_eq g20; have gt20 := Nat.le_of_eq g20.symm; have l20 := ltN V20.lt
        have V20 : Arv Z h20 a20 k20 .char (3 : Int32) [(.int (0 : Int32)), (.int (0 : Int32)), (.int (0 : Int32))] (.int (0 : Int32)) := V20
        refine G.dup H20 hx 94 (hb hby d1_93) rfl rfl ?_
        refine G.iconst H20 hx 95 (0 : Int32) (hb hby d1_94) rfl rfl ?_
        refine G.iload H20 hx 97 (hb hby d1_95) rfl rfl ?_
        refine Wk.castore W20 hx V20 (Or.inr (by omega)) v1 (nar_c16 (own_n hv1).up) 0 rfl ⟨by decide, by decide⟩ (Nat.le_of_ble_eq_true rfl) 98 (hb hby d1_97) rfl ?_
        intro T21 h21 W21 K21 Ch21 V21; have H21 := W21.here; have z21 := K21.1
        have V21 : Arv Z h21 a20 k20 .char (3 : Int32) [(.int v1), (.int (0 : Int32)), (.int (0 : Int32))] (.int (0 : Int32)) := V21
        refine G.dup H21 hx 99 (hb hby d1_98) rfl rfl ?_
        refine G.iconst H21 hx 100 (1 : Int32) (hb hby d1_99) rfl rfl ?_
        refine G.iload H21 hx 102 (hb hby d1_100) rfl rfl ?_
        refine Wk.castore W21 hx V21 (Or.inr (by omega)) v2 (nar_c16 (own_n hv2).up) 1 rfl ⟨by decide, by decide⟩ (Nat.le_of_ble_eq_true rfl) 103 (hb hby d1_102) rfl ?_
        intro T22 h22 W22 K22 Ch22 V22; have H22 := W22.here; have z22 := K22.1
        have V22 : Arv Z h22 a20 k20 .char (3 : Int32) [(.int v1), (.int v2), (.int (0 : Int32))] (.int (0 : Int32)) := V22
        refine G.dup H22 hx 104 (hb hby d1_103) rfl rfl ?_
        refine G.iconst H22 hx 105 (2 : Int32) (hb hby d1_104) rfl rfl ?_
        refine G.iload H22 hx 107 (hb hby d1_105) rfl rfl ?_
        refine Wk.castore W22 hx V22 (Or.inr (by omega)) v3 (nar_c16 (own_n hv3).up) 2 rfl ⟨by decide, by decide⟩ (Nat.le_of_ble_eq_true rfl) 108 (hb hby d1_107) rfl ?_
        intro T23 h23 W23 K23 Ch23 V23; have H23 := W23.here; have z23 := K23.1
        have V23 : Arv Z h23 a20 k20 .char (3 : Int32) [(.int v1), (.int v2), (.int v3)] (.int (0 : Int32)) := V23
        refine Wk.special W23 hx hoZ (y := (⟨"java/lang/String", "<init>", "([C)V"⟩ : MethodName)) rfl (wd hw 8 rfl) (wd hw 9 rfl) (wd hw 10 rfl) (by decide) (Wd := 1) (newS W23.warm (wsNew hw) (wd hw 5 rfl) W23.old (by omega) ((((A19.ext E20).keep K21).keep K22).keep K23) (((((D19 (Or.inr (wd hw 33 rfl)) (ty := (.array .byte)) (by decide)).ext E20).keep K21 (ninS (neA (by omega)) nin0)).keep K22 (ninS (neA (by omega)) nin0)).keep K23 (ninS (neA (by omega)) nin0)) (((((D19 (Or.inr (wd hw 31 rfl)) (ty := .byte) (by decide)).ext E20).keep K21 (ninS (neA (by omega)) nin0)).keep K22 (ninS (neA (by omega)) nin0)).keep K23 (ninS (neA (by omega)) nin0)) (cs := [v1, v2, v3]) V23 hCS hcz 3 rfl rfl (by decide) (by decide) (ala (own_n hv1) (ala (own_n hv2) (ala (own_n hv3) (ala0)))) (by decide) (by decide)) a19 (by rw [hml]; rfl) [(.ref a20)] [(.ref a19)] (lenOf pd1 rfl) rfl rfl (Nat.le_of_eq rfl) 111 (hb hby d1_108) rfl (by decide) (by decide) (hws1 (Or.inr (by omega)) (Ch23.safe (ltA (by omega)) (Ch22.safe (ltA (by omega)) (Ch21.safe (ltA (by omega)) ((CHr.ext E20 W19.ch).safe (ltA (by omega)) S19))))) ?_
        intro v24 T24 h24 W24 K24 Ch24 Q24
        have H24 := W24.here; have z24 := K24.1
        obtain ⟨rfl, Sv24⟩ := Q24
        show Goes p e below (PostW s Z consts_1 h0 [] (QMk Z cz x0 x1 x2 x3 h0) ({ frames := 4, cells := 6, slots := 12, locals := 68 } : Room).cells ({ frames := 4, cells := 6, slots := 12, locals := 68 } : Room).slots) (T24.setTop (mkF m 111 #[.val (.int x0), .val (.int x1), .val (.int x2), .val (.int x3), .val (.int v1), .val (.int v2), .val (.int v3)] [(.ref a19)]))
        exact Wk.retAW W24 hx hEL (t := (.object "java/lang/String")) rfl rfl hret hlk (hb hby d1_111) (by decide) (by decide) ⟨_, rfl, by omega, by have q := Sv24; simp only [mkL, ← hv1, ← hv2, ← hv3]; simpa [c25_4, c41_8, c62_13] using q⟩
def QPin (Z : State) (a : Addr) (x0 : Value) (x1 : Value) (h0 : Heap) : Option Value → Heap → Prop := fun v h => v = none ∧ Exa Z h a "com/example/nuntius/nuntius/http/ParameterValue" ∧ Fld Z h a "com/example/nuntius/nuntius/http/ParameterValue" "kind" "Lcom/example/nuntius/nuntius/http/ParameterValue$Kind;" x0 ∧ Fld Z h a "com/example/nuntius/nuntius/http/ParameterValue" "text" "Ljava/lang/String;" x1
set_option maxRecDepth 65536 in
set_option maxHeartbeats 40000000 in
theorem rmPin (l : Launch) (Z : State) (a0 : Array Value) (hw : ∀ d ∈ tables_1, d.before a0 Z = true) (a : Addr) (x0 : Value) (x1 : Value) (h0 : Heap) (O : Ext Z.heap h0) (gz_a : Z.heap.size ≤ a) (Ea : Exa Z h0 a "com/example/nuntius/nuntius/http/ParameterValue") (hr0 : x0.isRef = true) (hr1 : x1.isRef = true) (F_kind : Fld Z h0 a "com/example/nuntius/nuntius/http/ParameterValue" "kind" "Lcom/example/nuntius/nuntius/http/ParameterValue$Kind;" .null) (F_text : Fld Z h0 a "com/example/nuntius/nuntius/http/ParameterValue" "text" "Ljava/lang/String;" .null) :
    CN [] l Z (⟨"com/example/nuntius/nuntius/http/ParameterValue", "<init>", "(Lcom/example/nuntius/nuntius/http/ParameterValue$Kind;Ljava/lang/String;)V"⟩ : MethodName) prog_15_method_1_code 3 (Option.none : Option Jvm.ClassFile.FieldType) ({ frames := 2, cells := 0, slots := 0, locals := 30 } : Room) #[(.ref a), x0, x1] h0 [a] (QPin Z a x0 x1 h0) := by
  refine CN.of_walk (plainFor_of_name pn3) O (ala gz_a ala0) ?_
  intro p e s m below meth c T0 W0 hx hby hml hoZ hnm hret hlk
  have H0 := W0.here; have hz0 := W0.zsize
  refine Goes.cast (ef5 m a x0 (cat_ref hr0) x1 (cat_ref hr1)) ?_
  refine G.aloadN H0 hx 1 (hb hby d9_0) rfl rfl rfl ?_
  refine Wk.special W0 hx hoZ (y := (⟨"java/lang/Record", "<init>", "()V"⟩ : MethodName)) rfl (wd hw 46 rfl) (wd hw 47 rfl) (wd hw 50 rfl) (by decide) (Wd := 0) (CN.back (rmRec l Z a0 hw a h0 W0.old ) W0.warm (wd hw 50 rfl) (wd hw 49 rfl) (by decide) (by decide)) a (by rw [hml]; rfl) [] [] (lenOf pd2 rfl) rfl rfl (Nat.le_of_eq rfl) 4 (hb hby d9_1) rfl (by decide) (by decide) (fun _ q => nomatch q) ?_
  intro v1 T1 h1 W1 K1 Ch1 Q1
  have H1 := W1.here; have z1 := K1.1
  obtain ⟨rfl, eh1⟩ := Q1
  show Goes p e below (PostN s Z h0 [a] (QPin Z a x0 x1 h0) ({ frames := 2, cells := 0, slots := 0, locals := 30 } : Room).cells ({ frames := 2, cells := 0, slots := 0, locals := 30 } : Room).slots) (T1.setTop (mkF m 4 #[.val (.ref a), .val x0, .val x1] []))
  refine G.aloadN H1 hx 5 (hb hby d9_4) rfl rfl rfl ?_
  refine G.aloadN H1 hx 6 (hb hby d9_5) rfl hr0 rfl ?_
  refine Wk.putF W1 hx hoZ (wd hw 52 rfl) Via.refl x0 (F_kind.keep K1 nin0) (Ea.keep K1) (Or.inr ⟨(wd hw 53 rfl), rfl, hnm⟩) (wd hw 39 rfl) (ty := (.object "com/example/nuntius/nuntius/http/ParameterValue$Kind")) (by decide) (ref_nar rfl hr0).1 (ref_nar rfl hr0).2 (Or.inl (by simp)) safe0 9 (hb hby d9_6) rfl ?_
  intro T2 h2 W2 R2 Ch2; have H2 := W2.here; have z2 := R2.size
  have F2 := ((F_kind.keep K1 nin0)).same R2
  refine G.aloadN H2 hx 10 (hb hby d9_9) rfl rfl rfl ?_
  refine G.aloadN H2 hx 11 (hb hby d9_10) rfl hr1 rfl ?_
  refine Wk.putF W2 hx hoZ (wd hw 54 rfl) Via.refl x1 ((F_text.keep K1 nin0).other R2 (Or.inr (slot_ne (Or.inr (wd hw 55 rfl)) (Or.inr (wd hw 53 rfl)) (by decide) (t := (.object "java/lang/String")) (t' := (.object "com/example/nuntius/nuntius/http/ParameterValue$Kind")) (by decide) (by decide)))) ((Ea.keep K1).wr R2) (Or.inr ⟨(wd hw 55 rfl), rfl, hnm⟩) (wd hw 39 rfl) (ty := (.object "java/lang/String")) (by decide) (ref_nar rfl hr1).1 (ref_nar rfl hr1).2 (Or.inl (by simp)) safe0 14 (hb hby d9_11) rfl ?_
  intro T3 h3 W3 R3 Ch3; have H3 := W3.here; have z3 := R3.size
  have F3 := (((F_text.keep K1 nin0).other R2 (Or.inr (slot_ne (Or.inr (wd hw 55 rfl)) (Or.inr (wd hw 53 rfl)) (by decide) (t := (.object "java/lang/String")) (t' := (.object "com/example/nuntius/nuntius/http/ParameterValue$Kind")) (by decide) (by decide))))).same R3
  exact Wk.retV W3 hx hret hlk (hb hby d9_14) (by decide) (by decide) ⟨rfl, (((Ea.keep K1).wr R2).wr R3), (F2.other R3 (Or.inr (slot_ne (Or.inr (wd hw 53 rfl)) (Or.inr (wd hw 55 rfl)) (by decide) (t := (.object "com/example/nuntius/nuntius/http/ParameterValue$Kind")) (t' := (.object "java/lang/String")) (by decide) (by decide)))), F3⟩
def QNum (Z : State) (kv : Value) (t : Addr) (h0 : Heap) : Option Value → Heap → Prop := fun v h => ∃ a : Addr, v = some (.ref a) ∧ h0.size ≤ a ∧ Exa Z h a "com/example/nuntius/nuntius/http/ParameterValue" ∧ Fld Z h a "com/example/nuntius/nuntius/http/ParameterValue" "kind" "Lcom/example/nuntius/nuntius/http/ParameterValue$Kind;" kv ∧ Fld Z h a "com/example/nuntius/nuntius/http/ParameterValue" "text" "Ljava/lang/String;" (.ref t)
set_option maxRecDepth 65536 in
set_option maxHeartbeats 40000000 in
theorem rmNum (l : Launch) (Z : State) (a0 : Array Value) (hw : ∀ d ∈ tables_1, d.before a0 Z = true) (kv : Value) (t : Addr) (h0 : Heap) (O : Ext Z.heap h0) (hNB : Sta Z Z.heap "com/example/nuntius/nuntius/http/ParameterValue$Kind" "NUMBER" "Lcom/example/nuntius/nuntius/http/ParameterValue$Kind;" kv) (hkv : kv.isRef = true) :
    CN [] l Z (⟨"com/example/nuntius/nuntius/http/ParameterValue", "number", "(Ljava/lang/String;)Lcom/example/nuntius/nuntius/http/ParameterValue;"⟩ : MethodName) prog_15_method_3_code 1 (Option.some (Jvm.ClassFile.FieldType.object "com/example/nuntius/nuntius/http/ParameterValue")) ({ frames := 3, cells := 1, slots := 2, locals := 50 } : Room) #[(.ref t)] h0 [] (QNum Z kv t h0) := by
  refine CN.of_walk (plainFor_of_name pn3) O (fun _ q => nomatch q) ?_
  intro p e s m below meth c T0 W0 hx hby hml hoZ hnm hret hlk
  have H0 := W0.here; have hz0 := W0.zsize
  refine Goes.cast (ef3 m t) ?_
  refine Wk.newO W0 hx hoZ (wd hw 38 rfl) (wd hw 39 rfl) (wd hw 36 rfl) 3 (hb hby d8_0) rfl (by decide) (by decide) ?_
  intro T1 h1 a1 W1 E1 g1 A1 D1 S1
  have H1 := W1.here; have z1 := E1.1; have gu1 := Nat.le_of_eq g1; have gt1 := Nat.le_of_eq g1.symm; have l1 := ltN A1.lt
  refine G.dup H1 hx 4 (hb hby d8_3) rfl rfl ?_
  refine Wk.getS W1 hx hoZ (wd hw 40 rfl) Via.refl (hNB.ext W1.old) 7 (hb hby d8_4) rfl ?_
  intro T2 W2; have H2 := W2.here
  refine G.aloadN H2 hx 8 (hb hby d8_7) rfl rfl rfl ?_
  refine Wk.special W2 hx hoZ (y := (⟨"com/example/nuntius/nuntius/http/ParameterValue", "<init>", "(Lcom/example/nuntius/nuntius/http/ParameterValue$Kind;Ljava/lang/String;)V"⟩ : MethodName)) rfl (wd hw 43 rfl) (wd hw 44 rfl) (wd hw 45 rfl) (by decide) (Wd := 1) (CN.back (rmPin l Z a0 hw a1 kv (.ref t) h1 W2.old (by omega) A1 hkv rfl (D1 (Or.inr (wd hw 53 rfl)) (ty := (.object "com/example/nuntius/nuntius/http/ParameterValue$Kind")) (by decide)) (D1 (Or.inr (wd hw 55 rfl)) (ty := (.object "java/lang/String")) (by decide))) W2.warm (wd hw 45 rfl) (wd hw 36 rfl) (by decide) (by decide)) a1 (by rw [hml]; rfl) [kv, (.ref t)] [(.ref a1)] (lenOf pd3 rfl) rfl rfl (Nat.le_of_eq rfl) 11 (hb hby d8_8) rfl (by decide) (by decide) (hws1 (Or.inr (by omega)) safe0) ?_
  intro v3 T3 h3 W3 K3 Ch3 Q3
  have H3 := W3.here; have z3 := K3.1
  obtain ⟨rfl, X3, F3_kind, F3_text⟩ := Q3
  show Goes p e below (PostN s Z h0 [] (QNum Z kv t h0) ({ frames := 3, cells := 1, slots := 2, locals := 50 } : Room).cells ({ frames := 3, cells := 1, slots := 2, locals := 50 } : Room).slots) (T3.setTop (mkF m 11 #[.val (.ref t)] [(.ref a1)]))
  exact Wk.retA W3 hx (t := (.object "com/example/nuntius/nuntius/http/ParameterValue")) rfl rfl hret hlk (hb hby d8_11) (by decide) (by decide) ⟨_, rfl, by omega, X3, F3_kind, F3_text⟩
def QKd (Z : State) (a : Addr) (x : Value) (h0 : Heap) : Option Value → Heap → Prop := fun v h => v = some x ∧ h = h0
set_option maxRecDepth 65536 in
set_option maxHeartbeats 40000000 in
theorem rmKd (l : Launch) (Z : State) (a0 : Array Value) (hw : ∀ d ∈ tables_1, d.before a0 Z = true) (a : Addr) (x : Value) (h0 : Heap) (O : Ext Z.heap h0) (Fx : Fld Z h0 a "com/example/nuntius/nuntius/http/ParameterValue" "kind" "Lcom/example/nuntius/nuntius/http/ParameterValue$Kind;" x) (hr : x.isRef = true) :
    CN [] l Z (⟨"com/example/nuntius/nuntius/http/ParameterValue", "kind", "()Lcom/example/nuntius/nuntius/http/ParameterValue$Kind;"⟩ : MethodName) prog_15_method_7_code 1 (Option.some (Jvm.ClassFile.FieldType.object "com/example/nuntius/nuntius/http/ParameterValue$Kind")) ({ frames := 0, cells := 0, slots := 0, locals := 0 } : Room) #[(.ref a)] h0 [] (QKd Z a x h0) := by
  refine CN.of_walk (plainFor_of_name pn3) O (fun _ q => nomatch q) ?_
  intro p e s m below meth c T0 W0 hx hby hml hoZ hnm hret hlk
  have H0 := W0.here; have hz0 := W0.zsize
  refine Goes.cast (ef3 m a) ?_
  refine G.aloadN H0 hx 1 (hb hby d11_0) rfl rfl rfl ?_
  refine Wk.getF W0 hx hoZ (host := "") (Or.inl (wd hw 52 rfl)) Via.refl Fx 4 (hb hby d11_1) rfl ?_
  intro T1 W1; have H1 := W1.here
  exact Wk.retA W1 hx (t := (.object "com/example/nuntius/nuntius/http/ParameterValue$Kind")) rfl hr hret hlk (hb hby d11_4) (by decide) (by decide) ⟨rfl, rfl⟩
def QTx (Z : State) (a : Addr) (x : Value) (h0 : Heap) : Option Value → Heap → Prop := fun v h => v = some x ∧ h = h0
set_option maxRecDepth 65536 in
set_option maxHeartbeats 40000000 in
theorem rmTx (l : Launch) (Z : State) (a0 : Array Value) (hw : ∀ d ∈ tables_1, d.before a0 Z = true) (a : Addr) (x : Value) (h0 : Heap) (O : Ext Z.heap h0) (Fx : Fld Z h0 a "com/example/nuntius/nuntius/http/ParameterValue" "text" "Ljava/lang/String;" x) (hr : x.isRef = true) :
    CN [] l Z (⟨"com/example/nuntius/nuntius/http/ParameterValue", "text", "()Ljava/lang/String;"⟩ : MethodName) prog_15_method_8_code 1 (Option.some (Jvm.ClassFile.FieldType.object "java/lang/String")) ({ frames := 0, cells := 0, slots := 0, locals := 0 } : Room) #[(.ref a)] h0 [] (QTx Z a x h0) := by
  refine CN.of_walk (plainFor_of_name pn3) O (fun _ q => nomatch q) ?_
  intro p e s m below meth c T0 W0 hx hby hml hoZ hnm hret hlk
  have H0 := W0.here; have hz0 := W0.zsize
  refine Goes.cast (ef3 m a) ?_
  refine G.aloadN H0 hx 1 (hb hby d12_0) rfl rfl rfl ?_
  refine Wk.getF W0 hx hoZ (host := "") (Or.inl (wd hw 54 rfl)) Via.refl Fx 4 (hb hby d12_1) rfl ?_
  intro T1 W1; have H1 := W1.here
  exact Wk.retA W1 hx (t := (.object "java/lang/String")) rfl hr hret hlk (hb hby d12_4) (by decide) (by decide) ⟨rfl, rfl⟩
def Q0 (Z : State) (cz : Int32) (kv : Value) (p0 : Int32) (p1 : Int32) (p2 : Int32) (p3 : Int32) (h0 : Heap) : Option Value → Heap → Prop := fun v h => v = some (.int 1)
set_option maxRecDepth 65536 in
set_option maxHeartbeats 40000000 in
theorem rm0 (l : Launch) (Z : State) (a0 : Array Value) (hw : ∀ d ∈ tables_1, d.before a0 Z = true) (cz : Int32) (kv : Value) (p0 : Int32) (p1 : Int32) (p2 : Int32) (p3 : Int32) (h0 : Heap) (O : Ext Z.heap h0) (hCS : Sta Z Z.heap "java/lang/String" "COMPACT_STRINGS" "Z" (.int cz)) (hcz : ¬ cz = 0) (hNB : Sta Z Z.heap "com/example/nuntius/nuntius/http/ParameterValue$Kind" "NUMBER" "Lcom/example/nuntius/nuntius/http/ParameterValue$Kind;" kv) (hkv : kv.isRef = true) :
    CW tables_1 l Z consts_1 x code maxLocals ret room_1 #[(.int p0), (.int p1), (.int p2), (.int p3)] h0 [] (Q0 Z cz kv p0 p1 p2 p3 h0) := by
  refine CW.of_walk (plainFor_of_name pn2) O (fun _ q => nomatch q) ?_
  intro p e s m below meth c T0 W0 hsf hx hby hml hoZ hnm hret hlk
  have H0 := W0.here; have hz0 := W0.zsize; have hEL := elw hw
  refine Goes.cast (ef6 m p0 p1 p2 p3) ?_
  refine G.iloadN H0 hx 1 (hb hby at_0) rfl rfl ?_
  refine G.iconst H0 hx 2 (3 : Int32) (hb hby at_1) rfl rfl ?_
  refine G.iand H0 hx 3 (hb hby at_2) rfl ?_
  refine G.istore H0 hx 5 (fun v => #[.val (.int p0), .val (.int p1), .val (.int p2), .val (.int p3), .val (.int v), .unset, .unset, .unset]) (hb hby at_3) (fun _ => rfl) rfl ?_
  intro v1 hv1
  refine G.iload H0 hx 7 (hb hby at_5) rfl rfl ?_
  refine G.iloadN H0 hx 8 (hb hby at_7) rfl rfl ?_
  refine G.iloadN H0 hx 9 (hb hby at_8) rfl rfl ?_
  refine G.iloadN H0 hx 10 (hb hby at_9) rfl rfl ?_
  refine Wk.callSW W0 hx hoZ (y := (⟨"com/example/nuntius/nuntius/http/ParameterValueNumberPinLaw", "drawn", "(IIII)Ljava/lang/String;"⟩ : MethodName)) (wd hw 0 rfl) (wd hw 1 rfl) (wd hw 2 rfl) (wd hw 3 rfl) (by decide) (Wd := 0) (CW.back (rmMk l Z a0 hw cz v1 p0 p1 p2 h0 W0.old hCS hcz) W0.warm (wd hw 3 rfl) (wd hw 2 rfl) (by decide) (by decide) hEL W0.ch (fun _ q => nomatch q) (fun _ q => nomatch q)) (by rw [hml]; rfl) [(.int v1), (.int p0), (.int p1), (.int p2)] [] (lenOf pd4 rfl) rfl rfl (Nat.le_of_eq rfl) 13 (hb hby at_10) rfl (by decide) (by decide) (fun _ q => nomatch q) ?_
  intro v2 vm2 T2 h2 W2 K2 Ch2 Q2
  have H2 := W2.here; have z2 := K2.1
  obtain ⟨a2, rfl, g2, Sv2⟩ := Q2; have l2 := ltN Sv2.lt
  show Goes p e below (PostW s Z consts_1 h0 [] (Q0 Z cz kv p0 p1 p2 p3 h0) room_1.cells room_1.slots) (T2.setTop (mkF m 13 #[.val (.int p0), .val (.int p1), .val (.int p2), .val (.int p3), .val (.int v1), .unset, .unset, .unset] [(.ref a2)]))
  refine G.astore H2 hx 15 #[.val (.int p0), .val (.int p1), .val (.int p2), .val (.int p3), .val (.int v1), .val (.ref a2), .unset, .unset] (hb hby at_13) rfl rfl rfl ?_
  refine G.aload H2 hx 17 (hb hby at_15) rfl rfl rfl ?_
  refine Wk.callS W2 hx hoZ (y := (⟨"com/example/nuntius/nuntius/http/ParameterValue", "number", "(Ljava/lang/String;)Lcom/example/nuntius/nuntius/http/ParameterValue;"⟩ : MethodName)) (wd hw 34 rfl) (wd hw 35 rfl) (wd hw 36 rfl) (wd hw 37 rfl) (by decide) (Wd := 0) (CN.back (rmNum l Z a0 hw kv a2 h2 W2.old hNB hkv) W2.warm (wd hw 37 rfl) (wd hw 36 rfl) (by decide) (by decide)) (by rw [hml]; rfl) [(.ref a2)] [] (lenOf pd5 rfl) rfl rfl (Nat.le_of_eq rfl) 20 (hb hby at_17) rfl (by decide) (by decide) (fun _ q => nomatch q) ?_
  intro v3 T3 h3 W3 K3 Ch3 Q3
  have H3 := W3.here; have z3 := K3.1
  obtain ⟨a3, rfl, g3, X3, F3k, F3t⟩ := Q3; have l3 := ltN X3.lt
  show Goes p e below (PostW s Z consts_1 h0 [] (Q0 Z cz kv p0 p1 p2 p3 h0) room_1.cells room_1.slots) (T3.setTop (mkF m 20 #[.val (.int p0), .val (.int p1), .val (.int p2), .val (.int p3), .val (.int v1), .val (.ref a2), .unset, .unset] [(.ref a3)]))
  refine G.astore H3 hx 22 #[.val (.int p0), .val (.int p1), .val (.int p2), .val (.int p3), .val (.int v1), .val (.ref a2), .val (.ref a3), .unset] (hb hby at_20) rfl rfl rfl ?_
  refine G.aload H3 hx 24 (hb hby at_22) rfl rfl rfl ?_
  refine Wk.virtual W3 hx hoZ (y := (⟨"com/example/nuntius/nuntius/http/ParameterValue", "kind", "()Lcom/example/nuntius/nuntius/http/ParameterValue$Kind;"⟩ : MethodName)) (z := (⟨"com/example/nuntius/nuntius/http/ParameterValue", "kind", "()Lcom/example/nuntius/nuntius/http/ParameterValue$Kind;"⟩ : MethodName)) (wd hw 56 rfl) (wd hw 57 rfl) (wd hw 59 rfl) (wd hw 58 rfl) (W3.nf (wd hw 59 rfl)) (by decide) (Wd := 0) (CN.back (rmKd l Z a0 hw a3 kv h3 W3.old F3k hkv) W3.warm (wd hw 60 rfl) (wd hw 36 rfl) (by decide) (by decide)) X3 (by rw [hml]; rfl) [] [] (lenOf pd6 rfl) rfl rfl (Nat.le_of_eq rfl) 27 (hb hby at_24) rfl (by decide) (by decide) (fun _ q => nomatch q) ?_
  intro v4 T4 h4 W4 K4 Ch4 Q4
  have H4 := W4.here; have z4 := K4.1
  obtain ⟨rfl, eh4⟩ := Q4
  show Goes p e below (PostW s Z consts_1 h0 [] (Q0 Z cz kv p0 p1 p2 p3 h0) room_1.cells room_1.slots) (T4.setTop (mkF m 27 #[.val (.int p0), .val (.int p1), .val (.int p2), .val (.int p3), .val (.int v1), .val (.ref a2), .val (.ref a3), .unset] [kv]))
  refine Wk.getS W4 hx hoZ (wd hw 61 rfl) Via.refl (hNB.ext W4.old) 30 (hb hby at_27) rfl ?_
  intro T5 W5; have H5 := W5.here
  refine G.acmpY H5 hx 35 (hb hby at_30) hkv hkv (by (simp [XT.acmp] /- true -/)) (by decide) rfl ?_
  refine G.aload H5 hx 37 (hb hby at_35) rfl rfl rfl ?_
  refine Wk.virtual W5 hx hoZ (y := (⟨"com/example/nuntius/nuntius/http/ParameterValue", "text", "()Ljava/lang/String;"⟩ : MethodName)) (z := (⟨"com/example/nuntius/nuntius/http/ParameterValue", "text", "()Ljava/lang/String;"⟩ : MethodName)) (wd hw 62 rfl) (wd hw 63 rfl) (wd hw 65 rfl) (wd hw 64 rfl) (W5.nf (wd hw 65 rfl)) (by decide) (Wd := 0) (CN.back (rmTx l Z a0 hw a3 (.ref a2) h4 W5.old (F3t.keep K4 nin0) rfl) W5.warm (wd hw 66 rfl) (wd hw 36 rfl) (by decide) (by decide)) (X3.keep K4) (by rw [hml]; rfl) [] [] (lenOf pd7 rfl) rfl rfl (Nat.le_of_eq rfl) 40 (hb hby at_37) rfl (by decide) (by decide) (fun _ q => nomatch q) ?_
  intro v6 T6 h6 W6 K6 Ch6 Q6
  have H6 := W6.here; have z6 := K6.1
  obtain ⟨rfl, eh6⟩ := Q6
  show Goes p e below (PostW s Z consts_1 h0 [] (Q0 Z cz kv p0 p1 p2 p3 h0) room_1.cells room_1.slots) (T6.setTop (mkF m 40 #[.val (.int p0), .val (.int p1), .val (.int p2), .val (.int p3), .val (.int v1), .val (.ref a2), .val (.ref a3), .unset] [(.ref a2)]))
  refine G.astore H6 hx 42 #[.val (.int p0), .val (.int p1), .val (.int p2), .val (.int p3), .val (.int v1), .val (.ref a2), .val (.ref a3), .val (.ref a2)] (hb hby at_40) rfl rfl rfl ?_
  refine G.aload H6 hx 44 (hb hby at_42) rfl rfl rfl ?_
  refine Wk.virtual W6 hx hoZ (y := (⟨"java/lang/String", "length", "()I"⟩ : MethodName)) (z := (⟨"java/lang/String", "length", "()I"⟩ : MethodName)) (wd hw 67 rfl) (wd hw 68 rfl) (wd hw 70 rfl) (wd hw 69 rfl) (W6.nf (wd hw 70 rfl)) (by decide) (Wd := 0) (lenS W6.warm (wsLen hw) (wd hw 5 rfl) W6.old (((Sv2.keepX K3 ala0).keepX K4 ala0).keepX K6 ala0) hCS hcz (by decide) (by decide)) (((Sv2.exa.keep K3).keep K4).keep K6) (by rw [hml]; rfl) [] [] (lenOf pd8 rfl) rfl rfl (Nat.le_of_eq rfl) 47 (hb hby at_44) rfl (by decide) (by decide) (fun _ q => nomatch q) ?_
  intro v7 T7 h7 W7 K7 Ch7 Q7
  have H7 := W7.here; have z7 := K7.1
  obtain ⟨rfl, eh7⟩ := Q7
  show Goes p e below (PostW s Z consts_1 h0 [] (Q0 Z cz kv p0 p1 p2 p3 h0) room_1.cells room_1.slots) (T7.setTop (mkF m 47 #[.val (.int p0), .val (.int p1), .val (.int p2), .val (.int p3), .val (.int v1), .val (.ref a2), .val (.ref a3), .val (.ref a2)] [(.int (Int32.ofNat (mkL v1 p0 p1 p2).length))]))
  refine G.iload H7 hx 49 (hb hby at_47) rfl rfl ?_
  refine G.icmpY H7 hx 54 (hb hby at_49) (teq (own_len hv1)).1 (by decide) rfl ?_
  refine G.aload H7 hx 56 (hb hby at_54) rfl rfl rfl ?_
  refine G.aload H7 hx 58 (hb hby at_56) rfl rfl rfl ?_
  refine Wk.virtual W7 hx hoZ (y := (⟨"java/lang/String", "equals", "(Ljava/lang/Object;)Z"⟩ : MethodName)) (z := (⟨"java/lang/String", "equals", "(Ljava/lang/Object;)Z"⟩ : MethodName)) (wd hw 77 rfl) (wd hw 78 rfl) (wd hw 80 rfl) (wd hw 79 rfl) (W7.nf (wd hw 80 rfl)) (by decide) (Wd := 0) (CN.back (rmEqI l Z a0 hw a2 h7 W7.old ) W7.warm (wd hw 81 rfl) (wd hw 6 rfl) (by decide) (by decide)) ((((Sv2.exa.keep K3).keep K4).keep K6).keep K7) (by rw [hml]; rfl) [(.ref a2)] [] (lenOf pd9 rfl) rfl rfl (Nat.le_of_eq rfl) 61 (hb hby at_58) rfl (by decide) (by decide) (fun _ q => nomatch q) ?_
  intro v8 T8 h8 W8 K8 Ch8 Q8
  have H8 := W8.here; have z8 := K8.1
  obtain ⟨rfl, eh8⟩ := Q8
  show Goes p e below (PostW s Z consts_1 h0 [] (Q0 Z cz kv p0 p1 p2 p3 h0) room_1.cells room_1.slots) (T8.setTop (mkF m 61 #[.val (.int p0), .val (.int p1), .val (.int p2), .val (.int p3), .val (.int v1), .val (.ref a2), .val (.ref a3), .val (.ref a2)] [(.int (1 : Int32))]))
  exact Wk.retNW W8 hx hEL (1 : Int32) (t := .boolean) rfl (by simp) hret hlk (hb hby at_61) (by decide) (by decide) rfl
set_option maxRecDepth 65536 in
set_option maxHeartbeats 40000000 in
theorem comes_1 {Post : Tables → Env → Array Value → State → Outcome → State → Prop} (hpost : ∀ tb e args s v u, (limb_1_1.after args s (.returned v) u = true ∧ limb_1_2.after args s (.returned v) u = true ∧ True) → ReturnedEndW s (.returned v) u (Jvm.fieldLocs frame_1_writes args s ++ Jvm.arrayLocs frame_1_arrays args s ++ Jvm.staticLocs frame_1_statics s) 24 1152 → Post tb e args s (.returned v) u) :
    ArmFor flags0 classFile x code maxLocals ret World_1 tables_1 room_1 Calls_1 rest_1 Pre_1 Post := by
  intro l hfl _ _ p e ha hc hk s m args below hf hA hF happ hP
  obtain ⟨hcalls, hrest, hpre⟩ := hP
  obtain ⟨-, -, -, hnamed, -, -, -, hat⟩ := (Spec.applies_iff hf).mp happ
  obtain ⟨hg, hn⟩ := and_e (Cond.before_iff.mp (show (Jvm.Cond.and given_1 narrow_1).before args s = true from hpre))
  obtain ⟨hcount, hg0⟩ := and_e hg
  obtain ⟨ha0, hg1⟩ := and_e hg0
  obtain ⟨ha1, hg2⟩ := and_e hg1
  obtain ⟨ha2, hg3⟩ := and_e hg2
  obtain ⟨w0, w1, w2, w3, rfl⟩ : ∃ w0 w1 w2 w3 : Value, args = #[w0, w1, w2, w3] := by
    have hs : args.size = 4 := by simpa [Cond.value, given_1] using hcount
    obtain ⟨L⟩ := args
    match L, hs with
    | [w0, w1, w2, w3], _ => exact ⟨w0, w1, w2, w3, rfl⟩
  have hw := fun d (hd : d ∈ tables_1) => atoms_spec (ws := Jvm.Cond.code x code maxLocals ret :: tables_1) hat d (List.mem_cons_of_mem _ hd)
  obtain ⟨hsets, hown0⟩ := atoms_of _ (rest_1_c_eq ▸ (show rest_1_c.before _ s = true from hrest))
  have n5 := not_v (Cond.before_iff.mp (hsets _ (List.mem_of_getElem? (i := 2) rfl)))
  obtain ⟨i0, ei0⟩ := is_v ha0
  obtain rfl : w0 = (.int i0) := Option.some.inj ei0
  obtain ⟨i1, ei1⟩ := is_v ha1
  obtain rfl : w1 = (.int i1) := Option.some.inj ei1
  obtain ⟨i2, ei2⟩ := is_v ha2
  obtain rfl : w2 = (.int i2) := Option.some.inj ei2
  obtain ⟨i3, ei3⟩ := is_v hg3
  obtain rfl : w3 = (.int i3) := Option.some.inj ei3
  obtain ⟨cz, ecz⟩ := is_v (Cond.before_iff.mp (hsets _ (List.mem_of_getElem? (i := 1) rfl)))
  have hCS : Sta s s.heap "java/lang/String" "COMPACT_STRINGS" "Z" (.int cz) := Sta.start ecz (Or.inl (hsets _ (List.mem_of_getElem? (i := 0) rfl)))
  obtain ⟨fm, efm, hfm⟩ := isR_v (Cond.before_iff.mp (hsets _ (List.mem_of_getElem? (i := 8) rfl)))
  have hFM : Sta s s.heap "jdk/internal/util/Preconditions" "SIOOBE_FORMATTER" "Ljava/util/function/BiFunction;" fm := Sta.start efm (Or.inl (hsets _ (List.mem_of_getElem? (i := 7) rfl)))
  have hcz : ¬ cz = (0 : Int32) := gotF (Cond.eq_ints ecz (Term.int_eval (0))) n5
  have hCH : CHv s consts_1 s.vm s.heap := CHv.start (elw hw) (fun p hp => hcalls.1 p hp) (hsets _ (List.mem_of_getElem? (i := 2) rfl)) (wsStr hw _ (by simp [Bundle.stringAtoms])) (wsStr hw _ (by simp [Bundle.stringAtoms, Bundle.sN]))
  have hfit : Fit s := fun {y c} hc i hi => by
    obtain ⟨ha, rfl⟩ := Array.getElem?_eq_some_iff.mp hc
    have q := List.all_eq_true.mp ((Array.all_eq_true_iff_forall_mem.mp hF) _ (Array.getElem_mem ha)) i (List.mem_range.mpr hi)
    simpa [Array.getElem?_eq_getElem hi] using q
  obtain ⟨kv, ekv, fkv⟩ := static_fit hfit (wd hw 42 rfl) (ty := .object "com/example/nuntius/nuntius/http/ParameterValue$Kind") (by decide)
  have hkv : kv.isRef = true := by cases kv <;> first | rfl | (exact absurd fkv (by simp [fits]))
  have hNB : Sta s s.heap "com/example/nuntius/nuntius/http/ParameterValue$Kind" "NUMBER" "Lcom/example/nuntius/nuntius/http/ParameterValue$Kind;" kv := Sta.start ekv (Or.inr ⟨(wd hw 41 rfl), (wd hw 42 rfl)⟩)
  obtain ⟨n, o, h1, h2, h3, _, L, rfl, ⟨N, -, rfl⟩, -, hq⟩ := rm0 l s _ hw cz kv i0 i1 i2 i3 s.heap (ext_refl _) hCS hcz hNB hkv p e ha hc hk s m _ below hf ((Spec.applies_iff_loose hf).mp happ).1 ⟨rfl, State.Warmed39.refl s, rfl, hCH, fun _ q => nomatch q⟩ trivial
  refine ⟨n, _, h1, h2, h3, hpost _ _ _ _ _ _ ⟨Cond.after_iff.mpr rfl, Cond.after_iff.mpr (eq_i res_at (Term.int_eval (1)) rfl), trivial⟩ ⟨hq.1, hq.2.1, hq.2.2.1, (hq.2.2.2.sift fun y hy => Or.inr (N y hy)).mono (by decide) (by decide)⟩⟩
theorem main_1_1 : Claimed_1_1 := comes_1 fun _ _ _ _ _ _ h hF => ⟨h.1, hF⟩
theorem main_1_2 : Claimed_1_2 := comes_1 fun _ _ _ _ _ _ h hF => ⟨h.2.1, hF⟩
end Jvm.Pilot.@@N@@
namespace Jvm.Pilot.@@N@@
open Jvm Jvm.ClassFile Sem Op Lib Jvm.Free Jvm.Stand Jvm.Pilot.@@N@@.Jvm.D
/-! MADE BY PROGRAM (witnessworld.py) out of the Statement's table words and the real class files: 23 classes; the members and pool entries that the words name. The judged class is class 1, her method 2. -/
namespace start1
open Jvm.ClassFile
def u (s : String) : CpInfo := .utf8 (stringToUtf16 s)
/-- a pool by its gaps: so many unusable entries, then the entry; so many at the end -/
def gap : Nat → List CpInfo → List CpInfo
  | 0, r => r
  | n + 1, r => .unusable :: gap n r
def poolList (es : List (Nat × CpInfo)) (last : Nat) : List CpInfo := es.foldr (fun e r => gap e.1 (e.2 :: r)) (gap last [])
def pool (es : List (Nat × CpInfo)) (last : Nat) : Array CpInfo := ⟨poolList es last⟩
def fileOf (pool : Array CpInfo) (this : Nat) (attrs : Array Attribute := #[]) (ms : Array MethodInfo := #[]) (fl : Nat := 33) (sup : Nat := 0) (ifs : Array Nat := #[]) (fds : Array FieldInfo := #[]) : ClassFile where
  minorVersion := 0
  majorVersion := 65
  constantPool := pool
  accessFlags := fl
  thisClass := this
  superClass := sup
  interfaces := ifs
  fields := fds
  methods := ms
  attributes := attrs
def plain (name : String) (sup : Option ClassId) : Class where
  name := name
  kind := .ordinary
  loader := none
  accessFlags := 33
  super := sup
  interfaces := #[]
  cf := none
  fields := #[]
  methods := #[]
  instanceTypes := #[]
  staticTypes := #[]
  resolved := #[]
  callSites := []
  init := .initialized
  statics := none
  mirror := none

def pool0 : Array CpInfo := pool [(5, u "<init>"), (0, u "()V"), (1, .class_ 10), (1, u "java/lang/Object")] 113

def k0c0 : Code := { maxStack := 0, maxLocals := 1, code := object_method_1_code, exceptionTable := #[], attributes := #[] }
def k0m0 : Method := { name := "<init>", desc := "()V", sig := { parameters := [], returnType := none }, accessFlags := 1, code := some k0c0 }
/-- java/lang/Object -/
def k0 : Class := { plain "java/lang/Object" none with
  accessFlags := 33
  interfaces := #[]
  cf := some (fileOf pool0 8 #[] #[{ accessFlags := 1, nameIndex := 5, descriptorIndex := 6, attributes := #[] }] 33 0 #[] #[])
  fields := #[]
  methods := #[k0m0]
  instanceTypes := #[]
  staticTypes := #[]
  resolved := Array.replicate 124 none
  statics := none }

def pool1 : Array CpInfo := pool [(2, .class_ 4), (1, u "java/lang/Object"), (0, u "<init>"), (0, u "()V"), (0, .class_ 8), (0, u "java/lang/String"), (0, .methodref 7 10), (0, .nameAndType 5 11), (0, u "([C)V"), (0, .methodref 13 14), (0, .class_ 15), (0, .nameAndType 16 17), (0, u "com/example/nuntius/nuntius/http/ParameterValueNumberPinLaw"), (0, u "drawn"), (0, u "(IIII)Ljava/lang/String;"), (0, .methodref 19 20), (0, .class_ 21), (0, .nameAndType 22 23), (0, u "com/example/nuntius/nuntius/http/ParameterValue"), (0, u "number"), (0, u "(Ljava/lang/String;)Lcom/example/nuntius/nuntius/http/ParameterValue;"), (0, .methodref 19 25), (0, .nameAndType 26 27), (0, u "kind"), (0, u "()Lcom/example/nuntius/nuntius/http/ParameterValue$Kind;"), (0, .fieldref 29 30), (0, .class_ 31), (0, .nameAndType 32 33), (0, u "com/example/nuntius/nuntius/http/ParameterValue$Kind"), (0, u "NUMBER"), (0, u "Lcom/example/nuntius/nuntius/http/ParameterValue$Kind;"), (0, .methodref 19 35), (0, .nameAndType 36 37), (0, u "text"), (0, u "()Ljava/lang/String;"), (0, .methodref 7 39), (0, .nameAndType 40 41), (0, u "length"), (0, u "()I"), (0, .methodref 7 43), (0, .nameAndType 44 45), (0, u "equals"), (0, u "(Ljava/lang/Object;)Z"), (3, u "law"), (0, u "(IIII)Z")] 4

def k1m0 : Method := { name := "<init>", desc := "()V", sig := { parameters := [], returnType := none }, accessFlags := 1, code := none }
def k1c1 : Code := { maxStack := 6, maxLocals := 7, code := method_2_code, exceptionTable := #[], attributes := #[] }
def k1m1 : Method := { name := "drawn", desc := "(IIII)Ljava/lang/String;", sig := { parameters := [.int, .int, .int, .int], returnType := some (.object "java/lang/String") }, accessFlags := 10, code := some k1c1 }
def k1c2 : Code := { maxStack := 4, maxLocals := 8, code := code, exceptionTable := #[], attributes := #[] }
def k1m2 : Method := { name := "law", desc := "(IIII)Z", sig := { parameters := [.int, .int, .int, .int], returnType := some .boolean }, accessFlags := 9, code := some k1c2 }
/-- com/example/nuntius/nuntius/http/ParameterValueNumberPinLaw -/
def k1 : Class := { plain "com/example/nuntius/nuntius/http/ParameterValueNumberPinLaw" (some 0) with
  accessFlags := 49
  interfaces := #[]
  cf := some (fileOf pool1 13 #[] #[{ accessFlags := 1, nameIndex := 5, descriptorIndex := 6, attributes := #[] }, { accessFlags := 10, nameIndex := 16, descriptorIndex := 17, attributes := #[] }, { accessFlags := 9, nameIndex := 49, descriptorIndex := 50, attributes := #[] }] 49 2 #[] #[])
  fields := #[]
  methods := #[k1m0, k1m1, k1m2]
  instanceTypes := #[]
  staticTypes := #[]
  resolved := Array.replicate 55 none
  statics := none }

def pool2 : Array CpInfo := pool [(1, .class_ 2), (0, u "java/io/Serializable"), (0, .class_ 4), (0, u "java/lang/Object")] 2

/-- java/io/Serializable -/
def k2 : Class := { plain "java/io/Serializable" (some 0) with
  accessFlags := 1537
  interfaces := #[]
  cf := some (fileOf pool2 1 #[] #[] 1537 3 #[] #[])
  fields := #[]
  methods := #[]
  instanceTypes := #[]
  staticTypes := #[]
  resolved := Array.replicate 7 none
  statics := none }

def pool3 : Array CpInfo := pool [(1, .class_ 2), (0, u "java/lang/Comparable"), (0, .class_ 4), (0, u "java/lang/Object")] 7

/-- java/lang/Comparable -/
def k3 : Class := { plain "java/lang/Comparable" (some 0) with
  accessFlags := 1537
  interfaces := #[]
  cf := some (fileOf pool3 1 #[] #[] 1537 3 #[] #[])
  fields := #[]
  methods := #[]
  instanceTypes := #[]
  staticTypes := #[]
  resolved := Array.replicate 12 none
  statics := none }

def pool4 : Array CpInfo := pool [(2, .class_ 4), (1, u "java/lang/CharSequence"), (42, .class_ 48), (0, u "java/lang/CharSequence$1CodePointIterator"), (10, .class_ 60), (0, u "java/lang/CharSequence$1CharIterator"), (5, .class_ 67), (0, u "java/lang/Object")] 63

/-- java/lang/CharSequence -/
def k4 : Class := { plain "java/lang/CharSequence" (some 0) with
  accessFlags := 1537
  interfaces := #[]
  cf := some (fileOf pool4 2 #[.nestMembers #[47, 59]] #[] 1537 66 #[] #[])
  fields := #[]
  methods := #[]
  instanceTypes := #[]
  staticTypes := #[]
  resolved := Array.replicate 131 none
  statics := none }

def pool5 : Array CpInfo := pool [(1, .class_ 2), (0, u "java/lang/constant/Constable"), (0, .class_ 4), (0, u "java/lang/Object")] 6

/-- java/lang/constant/Constable -/
def k5 : Class := { plain "java/lang/constant/Constable" (some 0) with
  accessFlags := 1537
  interfaces := #[]
  cf := some (fileOf pool5 1 #[] #[] 1537 3 #[] #[])
  fields := #[]
  methods := #[]
  instanceTypes := #[]
  staticTypes := #[]
  resolved := Array.replicate 11 none
  statics := none }

def pool6 : Array CpInfo := pool [(1, .class_ 2), (0, u "java/lang/constant/ConstantDesc"), (0, .class_ 4), (0, u "java/lang/Object")] 32

/-- java/lang/constant/ConstantDesc -/
def k6 : Class := { plain "java/lang/constant/ConstantDesc" (some 0) with
  accessFlags := 1537
  interfaces := #[]
  cf := some (fileOf pool6 1 #[] #[] 1537 3 #[] #[])
  fields := #[]
  methods := #[]
  instanceTypes := #[]
  staticTypes := #[]
  resolved := Array.replicate 37 none
  statics := none }

def pool7 : Array CpInfo := pool [(1, .methodref 2 3), (0, .class_ 4), (0, .nameAndType 5 6), (0, u "java/lang/Object"), (0, u "<init>"), (0, u "()V"), (0, .string 8), (0, u ""), (0, .fieldref 10 11), (0, .class_ 12), (0, .nameAndType 13 14), (0, u "java/lang/String"), (0, u "value"), (0, u "[B"), (0, .fieldref 10 16), (0, .nameAndType 17 18), (0, u "coder"), (0, u "B"), (2, u "hash"), (0, u "I"), (2, u "hashIsZero"), (0, u "Z"), (0, .methodref 10 28), (0, .nameAndType 5 29), (0, u "([CIILjava/lang/Void;)V"), (8, .fieldref 10 39), (0, .nameAndType 40 26), (0, u "COMPACT_STRINGS"), (1, .class_ 44), (1, u "java/lang/StringUTF16"), (0, u "compress"), (1, .methodref 42 48), (0, .nameAndType 49 50), (0, u "coderFromArrayLen"), (0, u "([BI)B"), (126, .methodref 42 178), (0, .nameAndType 45 179), (0, u "([CII)[B"), (154, u "()I"), (0, .methodref 10 336), (0, .nameAndType 17 337), (0, u "()B"), (169, u "length"), (35, u "equals"), (29, u "(Ljava/lang/Object;)Z"), (1, .class_ 576), (0, u "java/lang/CharSequence"), (22, u "CASE_INSENSITIVE_ORDER"), (0, u "Ljava/util/Comparator;"), (409, u "([C)V"), (90, u "serialPersistentFields"), (0, u "[Ljava/io/ObjectStreamField;"), (0, .class_ 1104), (0, u "java/lang/String$CaseInsensitiveComparator"), (1, .class_ 1107), (0, u "java/io/Serializable"), (0, .class_ 1109), (0, u "java/lang/Comparable"), (0, .class_ 1111), (0, u "java/lang/constant/Constable"), (0, .class_ 1113), (0, u "java/lang/constant/ConstantDesc"), (2, u "serialVersionUID"), (0, u "J"), (3, u "REPL"), (0, u "C"), (2, u "LATIN1"), (1, u "UTF16")] 323

def k7m0 : Method := { name := "<init>", desc := "()V", sig := { parameters := [], returnType := none }, accessFlags := 1, code := none }
def k7c1 : Code := { maxStack := 5, maxLocals := 2, code := jdk_42_method_3_code, exceptionTable := #[], attributes := #[] }
def k7m1 : Method := { name := "<init>", desc := "([C)V", sig := { parameters := [(.array .char)], returnType := none }, accessFlags := 1, code := some k7c1 }
def k7c2 : Code := { maxStack := 2, maxLocals := 1, code := jdk_42_method_54_code, exceptionTable := #[], attributes := #[] }
def k7m2 : Method := { name := "length", desc := "()I", sig := { parameters := [], returnType := some .int }, accessFlags := 1, code := some k7c2 }
def k7c3 : Code := { maxStack := 2, maxLocals := 3, code := jdk_42_method_66_code, exceptionTable := #[], attributes := #[] }
def k7m3 : Method := { name := "equals", desc := "(Ljava/lang/Object;)Z", sig := { parameters := [(.object "java/lang/Object")], returnType := some .boolean }, accessFlags := 1, code := some k7c3 }
def k7c4 : Code := { maxStack := 4, maxLocals := 6, code := jdk_42_method_149_code, exceptionTable := #[], attributes := #[] }
def k7m4 : Method := { name := "<init>", desc := "([CIILjava/lang/Void;)V", sig := { parameters := [(.array .char), .int, .int, (.object "java/lang/Void")], returnType := none }, accessFlags := 2, code := some k7c4 }
def k7c5 : Code := { maxStack := 1, maxLocals := 1, code := jdk_42_method_152_code, exceptionTable := #[], attributes := #[] }
def k7m5 : Method := { name := "coder", desc := "()B", sig := { parameters := [], returnType := some .byte }, accessFlags := 0, code := some k7c5 }
/-- java/lang/String -/
def k7 : Class := { plain "java/lang/String" (some 0) with
  accessFlags := 49
  interfaces := #[2, 3, 4, 5, 6]
  cf := some (fileOf pool7 10 #[.nestMembers #[1103]] #[{ accessFlags := 1, nameIndex := 5, descriptorIndex := 6, attributes := #[] }, { accessFlags := 1, nameIndex := 5, descriptorIndex := 1010, attributes := #[] }, { accessFlags := 1, nameIndex := 507, descriptorIndex := 334, attributes := #[] }, { accessFlags := 1, nameIndex := 543, descriptorIndex := 573, attributes := #[] }, { accessFlags := 2, nameIndex := 5, descriptorIndex := 29, attributes := #[] }, { accessFlags := 0, nameIndex := 17, descriptorIndex := 337, attributes := #[] }] 49 2 #[1106, 1108, 575, 1110, 1112] #[{ accessFlags := 18, nameIndex := 13, descriptorIndex := 14, attributes := #[] }, { accessFlags := 18, nameIndex := 17, descriptorIndex := 18, attributes := #[] }, { accessFlags := 2, nameIndex := 21, descriptorIndex := 22, attributes := #[] }, { accessFlags := 2, nameIndex := 25, descriptorIndex := 26, attributes := #[] }, { accessFlags := 26, nameIndex := 1116, descriptorIndex := 1117, attributes := #[] }, { accessFlags := 24, nameIndex := 40, descriptorIndex := 26, attributes := #[] }, { accessFlags := 26, nameIndex := 1101, descriptorIndex := 1102, attributes := #[] }, { accessFlags := 26, nameIndex := 1121, descriptorIndex := 1122, attributes := #[] }, { accessFlags := 25, nameIndex := 599, descriptorIndex := 600, attributes := #[] }, { accessFlags := 24, nameIndex := 1125, descriptorIndex := 18, attributes := #[] }, { accessFlags := 24, nameIndex := 1127, descriptorIndex := 18, attributes := #[] }])
  fields := #[{ name := "value", type := (.array .byte), accessFlags := 18, slot := 0, constantValue := 0 }, { name := "coder", type := .byte, accessFlags := 18, slot := 1, constantValue := 0 }, { name := "hash", type := .int, accessFlags := 2, slot := 2, constantValue := 0 }, { name := "hashIsZero", type := .boolean, accessFlags := 2, slot := 3, constantValue := 0 }, { name := "serialVersionUID", type := .long, accessFlags := 26, slot := 0, constantValue := 0 }, { name := "COMPACT_STRINGS", type := .boolean, accessFlags := 24, slot := 1, constantValue := 0 }, { name := "serialPersistentFields", type := (.array (.object "java/io/ObjectStreamField")), accessFlags := 26, slot := 2, constantValue := 0 }, { name := "REPL", type := .char, accessFlags := 26, slot := 3, constantValue := 0 }, { name := "CASE_INSENSITIVE_ORDER", type := (.object "java/util/Comparator"), accessFlags := 25, slot := 4, constantValue := 0 }, { name := "LATIN1", type := .byte, accessFlags := 24, slot := 5, constantValue := 0 }, { name := "UTF16", type := .byte, accessFlags := 24, slot := 6, constantValue := 0 }]
  methods := #[k7m0, k7m1, k7m2, k7m3, k7m4, k7m5]
  instanceTypes := #[(.array .byte), .byte, .int, .boolean]
  staticTypes := #[.long, .boolean, (.array (.object "java/io/ObjectStreamField")), .char, (.object "java/util/Comparator"), .byte, .byte]
  resolved := Array.replicate 1451 none
  statics := some 0 }

def pool8 : Array CpInfo := pool [(6, .class_ 8), (1, u "java/lang/Object"), (0, u "<init>"), (0, u "()V"), (1, .class_ 14), (1, u "java/lang/StringUTF16"), (31, u "$assertionsDisabled"), (0, u "Z"), (13, u "HI_BYTE_SHIFT"), (0, u "I"), (2, u "LO_BYTE_SHIFT"), (49, .methodref 12 116), (0, .nameAndType 117 118), (0, u "compress"), (0, u "([CI[BII)I"), (3, u "([CII)[B"), (138, u "coderFromArrayLen"), (0, u "([BI)B"), (106, .class_ 371), (1, u "java/lang/StringUTF16$LinesSpliterator"), (58, u "MAX_LENGTH"), (196, .class_ 628), (0, u "java/lang/StringUTF16$CodePointsSpliterator"), (0, .class_ 630), (0, u "java/lang/StringUTF16$CharsSpliterator")] 4

def k8m0 : Method := { name := "<init>", desc := "()V", sig := { parameters := [], returnType := none }, accessFlags := 0, code := none }
def k8c1 : Code := { maxStack := 2, maxLocals := 2, code := jdk_52_method_15_code, exceptionTable := #[], attributes := #[] }
def k8m1 : Method := { name := "coderFromArrayLen", desc := "([BI)B", sig := { parameters := [(.array .byte), .int], returnType := some .byte }, accessFlags := 8, code := some k8c1 }
def k8c2 : Code := { maxStack := 5, maxLocals := 6, code := jdk_52_method_16_code, exceptionTable := #[], attributes := #[] }
def k8m2 : Method := { name := "compress", desc := "([CII)[B", sig := { parameters := [(.array .char), .int, .int], returnType := some (.array .byte) }, accessFlags := 9, code := some k8c2 }
def k8c3 : Code := { maxStack := 3, maxLocals := 7, code := jdk_52_method_21_code, exceptionTable := #[], attributes := #[] }
def k8m3 : Method := { name := "compress", desc := "([CI[BII)I", sig := { parameters := [(.array .char), .int, (.array .byte), .int, .int], returnType := some .int }, accessFlags := 9, code := some k8c3 }
/-- java/lang/StringUTF16 -/
def k8 : Class := { plain "java/lang/StringUTF16" (some 0) with
  accessFlags := 48
  interfaces := #[]
  cf := some (fileOf pool8 12 #[.nestMembers #[627, 629, 369]] #[{ accessFlags := 0, nameIndex := 9, descriptorIndex := 10, attributes := #[] }, { accessFlags := 8, nameIndex := 261, descriptorIndex := 262, attributes := #[] }, { accessFlags := 9, nameIndex := 117, descriptorIndex := 122, attributes := #[] }, { accessFlags := 9, nameIndex := 117, descriptorIndex := 118, attributes := #[] }] 48 6 #[] #[{ accessFlags := 26, nameIndex := 61, descriptorIndex := 62, attributes := #[] }, { accessFlags := 26, nameIndex := 65, descriptorIndex := 62, attributes := #[] }, { accessFlags := 24, nameIndex := 430, descriptorIndex := 62, attributes := #[] }, { accessFlags := 4120, nameIndex := 46, descriptorIndex := 47, attributes := #[] }])
  fields := #[{ name := "HI_BYTE_SHIFT", type := .int, accessFlags := 26, slot := 0, constantValue := 0 }, { name := "LO_BYTE_SHIFT", type := .int, accessFlags := 26, slot := 1, constantValue := 0 }, { name := "MAX_LENGTH", type := .int, accessFlags := 24, slot := 2, constantValue := 0 }, { name := "$assertionsDisabled", type := .boolean, accessFlags := 4120, slot := 3, constantValue := 0 }]
  methods := #[k8m0, k8m1, k8m2, k8m3]
  instanceTypes := #[]
  staticTypes := #[.int, .int, .int, .boolean]
  resolved := Array.replicate 635 none
  statics := none }

def pool9 : Array CpInfo := pool [(1, .methodref 2 3), (0, .class_ 4), (0, .nameAndType 5 6), (0, u "java/lang/Object"), (0, u "<init>"), (0, u "()V"), (0, .class_ 8), (0, u "java/lang/Record")] 13

def k9c0 : Code := { maxStack := 1, maxLocals := 1, code := jdk_30_method_1_code, exceptionTable := #[], attributes := #[] }
def k9m0 : Method := { name := "<init>", desc := "()V", sig := { parameters := [], returnType := none }, accessFlags := 4, code := some k9c0 }
/-- java/lang/Record -/
def k9 : Class := { plain "java/lang/Record" (some 0) with
  accessFlags := 1057
  interfaces := #[]
  cf := some (fileOf pool9 7 #[] #[{ accessFlags := 4, nameIndex := 5, descriptorIndex := 6, attributes := #[] }] 1057 2 #[] #[])
  fields := #[]
  methods := #[k9m0]
  instanceTypes := #[]
  staticTypes := #[]
  resolved := Array.replicate 22 none
  statics := none }

def pool10 : Array CpInfo := pool [(1, .methodref 2 3), (0, .class_ 4), (0, .nameAndType 5 6), (0, u "java/lang/Record"), (0, u "<init>"), (0, u "()V"), (0, .fieldref 8 9), (0, .class_ 10), (0, .nameAndType 11 12), (0, u "com/example/nuntius/nuntius/http/ParameterValue"), (0, u "kind"), (0, u "Lcom/example/nuntius/nuntius/http/ParameterValue$Kind;"), (0, .fieldref 8 14), (0, .nameAndType 15 16), (0, u "text"), (0, u "Ljava/lang/String;"), (1, .class_ 20), (1, u "com/example/nuntius/nuntius/http/ParameterValue$Kind"), (1, .methodref 8 23), (0, .nameAndType 5 24), (0, u "(Lcom/example/nuntius/nuntius/http/ParameterValue$Kind;Ljava/lang/String;)V"), (0, .fieldref 18 26), (0, .nameAndType 27 12), (0, u "NUMBER"), (14, u "NO_TEXT"), (4, u "Lcom/example/nuntius/nuntius/http/ParameterValue;"), (4, u "(Ljava/lang/String;)Lcom/example/nuntius/nuntius/http/ParameterValue;"), (0, u "number"), (0, u "()Ljava/lang/String;"), (2, u "()Lcom/example/nuntius/nuntius/http/ParameterValue$Kind;")] 24

def k10c0 : Code := { maxStack := 2, maxLocals := 3, code := prog_15_method_1_code, exceptionTable := #[], attributes := #[] }
def k10m0 : Method := { name := "<init>", desc := "(Lcom/example/nuntius/nuntius/http/ParameterValue$Kind;Ljava/lang/String;)V", sig := { parameters := [(.object "com/example/nuntius/nuntius/http/ParameterValue$Kind"), (.object "java/lang/String")], returnType := none }, accessFlags := 1, code := some k10c0 }
def k10c1 : Code := { maxStack := 4, maxLocals := 1, code := prog_15_method_3_code, exceptionTable := #[], attributes := #[] }
def k10m1 : Method := { name := "number", desc := "(Ljava/lang/String;)Lcom/example/nuntius/nuntius/http/ParameterValue;", sig := { parameters := [(.object "java/lang/String")], returnType := some (.object "com/example/nuntius/nuntius/http/ParameterValue") }, accessFlags := 9, code := some k10c1 }
def k10c2 : Code := { maxStack := 1, maxLocals := 1, code := prog_15_method_7_code, exceptionTable := #[], attributes := #[] }
def k10m2 : Method := { name := "kind", desc := "()Lcom/example/nuntius/nuntius/http/ParameterValue$Kind;", sig := { parameters := [], returnType := some (.object "com/example/nuntius/nuntius/http/ParameterValue$Kind") }, accessFlags := 1, code := some k10c2 }
def k10c3 : Code := { maxStack := 1, maxLocals := 1, code := prog_15_method_8_code, exceptionTable := #[], attributes := #[] }
def k10m3 : Method := { name := "text", desc := "()Ljava/lang/String;", sig := { parameters := [], returnType := some (.object "java/lang/String") }, accessFlags := 1, code := some k10c3 }
/-- com/example/nuntius/nuntius/http/ParameterValue -/
def k10 : Class := { plain "com/example/nuntius/nuntius/http/ParameterValue" (some 9) with
  accessFlags := 49
  interfaces := #[]
  cf := some (fileOf pool10 8 #[.nestMembers #[18]] #[{ accessFlags := 1, nameIndex := 5, descriptorIndex := 24, attributes := #[] }, { accessFlags := 9, nameIndex := 53, descriptorIndex := 52, attributes := #[] }, { accessFlags := 1, nameIndex := 11, descriptorIndex := 57, attributes := #[] }, { accessFlags := 1, nameIndex := 15, descriptorIndex := 54, attributes := #[] }] 49 2 #[] #[{ accessFlags := 18, nameIndex := 11, descriptorIndex := 12, attributes := #[] }, { accessFlags := 18, nameIndex := 15, descriptorIndex := 16, attributes := #[] }, { accessFlags := 25, nameIndex := 42, descriptorIndex := 47, attributes := #[] }])
  fields := #[{ name := "kind", type := (.object "com/example/nuntius/nuntius/http/ParameterValue$Kind"), accessFlags := 18, slot := 0, constantValue := 0 }, { name := "text", type := (.object "java/lang/String"), accessFlags := 18, slot := 1, constantValue := 0 }, { name := "NO_TEXT", type := (.object "com/example/nuntius/nuntius/http/ParameterValue"), accessFlags := 25, slot := 0, constantValue := 0 }]
  methods := #[k10m0, k10m1, k10m2, k10m3]
  instanceTypes := #[(.object "com/example/nuntius/nuntius/http/ParameterValue$Kind"), (.object "java/lang/String")]
  staticTypes := #[(.object "com/example/nuntius/nuntius/http/ParameterValue")]
  resolved := Array.replicate 82 none
  statics := none }

def pool11 : Array CpInfo := pool [(2, .class_ 4), (1, u "java/lang/Enum"), (0, u "name"), (0, u "Ljava/lang/String;"), (2, u "ordinal"), (0, u "I"), (1, .class_ 14), (1, u "java/lang/Object"), (4, u "hash"), (86, .class_ 108), (1, u "java/lang/Enum$EnumDesc"), (2, .class_ 112), (0, u "java/lang/constant/Constable"), (0, .class_ 114), (0, u "java/lang/Comparable"), (0, .class_ 116), (0, u "java/io/Serializable")] 87

/-- java/lang/Enum -/
def k11 : Class := { plain "java/lang/Enum" (some 0) with
  accessFlags := 1057
  interfaces := #[5, 3, 2]
  cf := some (fileOf pool11 2 #[.nestMembers #[106]] #[] 1057 12 #[111, 113, 115] #[{ accessFlags := 18, nameIndex := 5, descriptorIndex := 6, attributes := #[] }, { accessFlags := 18, nameIndex := 9, descriptorIndex := 10, attributes := #[] }, { accessFlags := 2, nameIndex := 19, descriptorIndex := 10, attributes := #[] }])
  fields := #[{ name := "name", type := (.object "java/lang/String"), accessFlags := 18, slot := 0, constantValue := 0 }, { name := "ordinal", type := .int, accessFlags := 18, slot := 1, constantValue := 0 }, { name := "hash", type := .int, accessFlags := 2, slot := 2, constantValue := 0 }]
  methods := #[]
  instanceTypes := #[(.object "java/lang/String"), .int, .int]
  staticTypes := #[]
  resolved := Array.replicate 204 none
  statics := none }

def pool12 : Array CpInfo := pool [(1, .class_ 2), (0, u "com/example/nuntius/nuntius/http/ParameterValue$Kind"), (2, u "TEXT"), (0, u "Lcom/example/nuntius/nuntius/http/ParameterValue$Kind;"), (2, u "NUMBER"), (2, u "NO_TEXT"), (2, u "$VALUES"), (0, u "[Lcom/example/nuntius/nuntius/http/ParameterValue$Kind;"), (6, .class_ 25), (1, u "java/lang/Enum"), (26, .class_ 53), (0, u "com/example/nuntius/nuntius/http/ParameterValue")] 2

/-- com/example/nuntius/nuntius/http/ParameterValue$Kind -/
def k12 : Class := { plain "com/example/nuntius/nuntius/http/ParameterValue$Kind" (some 11) with
  accessFlags := 16433
  interfaces := #[]
  cf := some (fileOf pool12 1 #[.nestHost 52] #[] 16433 23 #[] #[{ accessFlags := 16409, nameIndex := 5, descriptorIndex := 6, attributes := #[] }, { accessFlags := 16409, nameIndex := 9, descriptorIndex := 6, attributes := #[] }, { accessFlags := 16409, nameIndex := 12, descriptorIndex := 6, attributes := #[] }, { accessFlags := 4122, nameIndex := 15, descriptorIndex := 16, attributes := #[] }])
  fields := #[{ name := "TEXT", type := (.object "com/example/nuntius/nuntius/http/ParameterValue$Kind"), accessFlags := 16409, slot := 0, constantValue := 0 }, { name := "NUMBER", type := (.object "com/example/nuntius/nuntius/http/ParameterValue$Kind"), accessFlags := 16409, slot := 1, constantValue := 0 }, { name := "NO_TEXT", type := (.object "com/example/nuntius/nuntius/http/ParameterValue$Kind"), accessFlags := 16409, slot := 2, constantValue := 0 }, { name := "$VALUES", type := (.array (.object "com/example/nuntius/nuntius/http/ParameterValue$Kind")), accessFlags := 4122, slot := 3, constantValue := 0 }]
  methods := #[]
  instanceTypes := #[(.object "java/lang/String"), .int, .int]
  staticTypes := #[(.object "com/example/nuntius/nuntius/http/ParameterValue$Kind"), (.object "com/example/nuntius/nuntius/http/ParameterValue$Kind"), (.object "com/example/nuntius/nuntius/http/ParameterValue$Kind"), (.array (.object "com/example/nuntius/nuntius/http/ParameterValue$Kind"))]
  resolved := Array.replicate 56 none
  statics := some 1 }

def pool13 : Array CpInfo := pool [(4, .class_ 6), (1, u "java/lang/Object"), (0, u "<init>"), (0, u "()V"), (5, .class_ 16), (1, u "java/lang/StringLatin1"), (104, u "$assertionsDisabled"), (0, u "Z"), (98, .class_ 223), (1, u "java/lang/StringLatin1$LinesSpliterator"), (166, .class_ 391), (0, u "java/lang/StringLatin1$CharsSpliterator")] 3

def k13m0 : Method := { name := "<init>", desc := "()V", sig := { parameters := [], returnType := none }, accessFlags := 0, code := none }
/-- java/lang/StringLatin1 -/
def k13 : Class := { plain "java/lang/StringLatin1" (some 0) with
  accessFlags := 48
  interfaces := #[]
  cf := some (fileOf pool13 14 #[.nestMembers #[390, 221]] #[{ accessFlags := 0, nameIndex := 7, descriptorIndex := 8, attributes := #[] }] 48 4 #[] #[{ accessFlags := 4120, nameIndex := 121, descriptorIndex := 122, attributes := #[] }])
  fields := #[{ name := "$assertionsDisabled", type := .boolean, accessFlags := 4120, slot := 0, constantValue := 0 }]
  methods := #[k13m0]
  instanceTypes := #[]
  staticTypes := #[.boolean]
  resolved := Array.replicate 395 none
  statics := none }

def pool14 : Array CpInfo := pool [(2, .class_ 4), (1, u "java/lang/Object"), (0, u "<init>"), (0, u "()V"), (17, .class_ 26), (1, u "jdk/internal/util/Preconditions"), (28, .class_ 56), (0, u "jdk/internal/util/Preconditions$4"), (57, .class_ 115), (0, u "jdk/internal/util/Preconditions$1"), (7, u "SIOOBE_FORMATTER"), (0, u "Ljava/util/function/BiFunction;"), (0, .class_ 126), (0, u "jdk/internal/util/Preconditions$2"), (3, u "AIOOBE_FORMATTER"), (0, .class_ 132), (0, u "jdk/internal/util/Preconditions$3"), (3, u "IOOBE_FORMATTER")] 57

def k14m0 : Method := { name := "<init>", desc := "()V", sig := { parameters := [], returnType := none }, accessFlags := 1, code := none }
/-- jdk/internal/util/Preconditions -/
def k14 : Class := { plain "jdk/internal/util/Preconditions" (some 0) with
  accessFlags := 33
  interfaces := #[]
  cf := some (fileOf pool14 24 #[.nestMembers #[55, 131, 125, 114]] #[{ accessFlags := 1, nameIndex := 5, descriptorIndex := 6, attributes := #[] }] 33 2 #[] #[{ accessFlags := 25, nameIndex := 123, descriptorIndex := 124, attributes := #[] }, { accessFlags := 25, nameIndex := 130, descriptorIndex := 124, attributes := #[] }, { accessFlags := 25, nameIndex := 136, descriptorIndex := 124, attributes := #[] }])
  fields := #[{ name := "SIOOBE_FORMATTER", type := (.object "java/util/function/BiFunction"), accessFlags := 25, slot := 0, constantValue := 0 }, { name := "AIOOBE_FORMATTER", type := (.object "java/util/function/BiFunction"), accessFlags := 25, slot := 1, constantValue := 0 }, { name := "IOOBE_FORMATTER", type := (.object "java/util/function/BiFunction"), accessFlags := 25, slot := 2, constantValue := 0 }]
  methods := #[k14m0]
  instanceTypes := #[]
  staticTypes := #[(.object "java/util/function/BiFunction"), (.object "java/util/function/BiFunction"), (.object "java/util/function/BiFunction")]
  resolved := Array.replicate 194 none
  statics := some 2 }

def pool15 : Array CpInfo := pool [(9, u "<init>"), (6, .class_ 18), (1, u "java/lang/Object"), (0, u "()V"), (1, .class_ 23), (1, u "jdk/internal/util/ArraysSupport"), (0, u "LOG2_ARRAY_LONG_INDEX_SCALE"), (0, u "I"), (2, u "U"), (0, u "Ljdk/internal/misc/Unsafe;"), (8, u "BIG_ENDIAN"), (0, u "Z"), (8, u "LOG2_BYTE_BIT_SIZE"), (4, u "LOG2_ARRAY_INT_INDEX_SCALE"), (54, u "JLA"), (0, u "Ljdk/internal/access/JavaLangAccess;"), (11, u "LOG2_ARRAY_BOOLEAN_INDEX_SCALE"), (9, u "LOG2_ARRAY_BYTE_INDEX_SCALE"), (5, u "LOG2_ARRAY_CHAR_INDEX_SCALE"), (5, u "LOG2_ARRAY_SHORT_INDEX_SCALE"), (18, u "LOG2_ARRAY_FLOAT_INDEX_SCALE"), (24, u "LOG2_ARRAY_DOUBLE_INDEX_SCALE"), (89, u "T_BOOLEAN"), (2, u "T_CHAR"), (1, u "T_FLOAT"), (1, u "T_DOUBLE"), (1, u "T_BYTE"), (1, u "T_SHORT"), (1, u "T_INT"), (1, u "T_LONG"), (1, u "SOFT_MAX_ARRAY_LENGTH")] 83

def k15m0 : Method := { name := "<init>", desc := "()V", sig := { parameters := [], returnType := none }, accessFlags := 2, code := none }
/-- jdk/internal/util/ArraysSupport -/
def k15 : Class := { plain "jdk/internal/util/ArraysSupport" (some 0) with
  accessFlags := 33
  interfaces := #[]
  cf := some (fileOf pool15 21 #[] #[{ accessFlags := 2, nameIndex := 9, descriptorIndex := 19, attributes := #[] }] 33 16 #[] #[{ accessFlags := 24, nameIndex := 28, descriptorIndex := 29, attributes := #[] }, { accessFlags := 26, nameIndex := 38, descriptorIndex := 39, attributes := #[] }, { accessFlags := 25, nameIndex := 121, descriptorIndex := 25, attributes := #[] }, { accessFlags := 25, nameIndex := 131, descriptorIndex := 25, attributes := #[] }, { accessFlags := 25, nameIndex := 137, descriptorIndex := 25, attributes := #[] }, { accessFlags := 25, nameIndex := 143, descriptorIndex := 25, attributes := #[] }, { accessFlags := 25, nameIndex := 53, descriptorIndex := 25, attributes := #[] }, { accessFlags := 25, nameIndex := 24, descriptorIndex := 25, attributes := #[] }, { accessFlags := 25, nameIndex := 162, descriptorIndex := 25, attributes := #[] }, { accessFlags := 25, nameIndex := 187, descriptorIndex := 25, attributes := #[] }, { accessFlags := 26, nameIndex := 48, descriptorIndex := 25, attributes := #[] }, { accessFlags := 25, nameIndex := 277, descriptorIndex := 25, attributes := #[] }, { accessFlags := 25, nameIndex := 280, descriptorIndex := 25, attributes := #[] }, { accessFlags := 25, nameIndex := 282, descriptorIndex := 25, attributes := #[] }, { accessFlags := 25, nameIndex := 284, descriptorIndex := 25, attributes := #[] }, { accessFlags := 25, nameIndex := 286, descriptorIndex := 25, attributes := #[] }, { accessFlags := 25, nameIndex := 288, descriptorIndex := 25, attributes := #[] }, { accessFlags := 25, nameIndex := 290, descriptorIndex := 25, attributes := #[] }, { accessFlags := 25, nameIndex := 292, descriptorIndex := 25, attributes := #[] }, { accessFlags := 26, nameIndex := 108, descriptorIndex := 109, attributes := #[] }, { accessFlags := 25, nameIndex := 294, descriptorIndex := 25, attributes := #[] }])
  fields := #[{ name := "U", type := (.object "jdk/internal/misc/Unsafe"), accessFlags := 24, slot := 0, constantValue := 0 }, { name := "BIG_ENDIAN", type := .boolean, accessFlags := 26, slot := 1, constantValue := 0 }, { name := "LOG2_ARRAY_BOOLEAN_INDEX_SCALE", type := .int, accessFlags := 25, slot := 2, constantValue := 0 }, { name := "LOG2_ARRAY_BYTE_INDEX_SCALE", type := .int, accessFlags := 25, slot := 3, constantValue := 0 }, { name := "LOG2_ARRAY_CHAR_INDEX_SCALE", type := .int, accessFlags := 25, slot := 4, constantValue := 0 }, { name := "LOG2_ARRAY_SHORT_INDEX_SCALE", type := .int, accessFlags := 25, slot := 5, constantValue := 0 }, { name := "LOG2_ARRAY_INT_INDEX_SCALE", type := .int, accessFlags := 25, slot := 6, constantValue := 0 }, { name := "LOG2_ARRAY_LONG_INDEX_SCALE", type := .int, accessFlags := 25, slot := 7, constantValue := 0 }, { name := "LOG2_ARRAY_FLOAT_INDEX_SCALE", type := .int, accessFlags := 25, slot := 8, constantValue := 0 }, { name := "LOG2_ARRAY_DOUBLE_INDEX_SCALE", type := .int, accessFlags := 25, slot := 9, constantValue := 0 }, { name := "LOG2_BYTE_BIT_SIZE", type := .int, accessFlags := 26, slot := 10, constantValue := 0 }, { name := "T_BOOLEAN", type := .int, accessFlags := 25, slot := 11, constantValue := 0 }, { name := "T_CHAR", type := .int, accessFlags := 25, slot := 12, constantValue := 0 }, { name := "T_FLOAT", type := .int, accessFlags := 25, slot := 13, constantValue := 0 }, { name := "T_DOUBLE", type := .int, accessFlags := 25, slot := 14, constantValue := 0 }, { name := "T_BYTE", type := .int, accessFlags := 25, slot := 15, constantValue := 0 }, { name := "T_SHORT", type := .int, accessFlags := 25, slot := 16, constantValue := 0 }, { name := "T_INT", type := .int, accessFlags := 25, slot := 17, constantValue := 0 }, { name := "T_LONG", type := .int, accessFlags := 25, slot := 18, constantValue := 0 }, { name := "JLA", type := (.object "jdk/internal/access/JavaLangAccess"), accessFlags := 26, slot := 19, constantValue := 0 }, { name := "SOFT_MAX_ARRAY_LENGTH", type := .int, accessFlags := 25, slot := 20, constantValue := 0 }]
  methods := #[k15m0]
  instanceTypes := #[]
  staticTypes := #[(.object "jdk/internal/misc/Unsafe"), .boolean, .int, .int, .int, .int, .int, .int, .int, .int, .int, .int, .int, .int, .int, .int, .int, .int, .int, (.object "jdk/internal/access/JavaLangAccess"), .int]
  resolved := Array.replicate 378 none
  statics := none }

def pool16 : Array CpInfo := pool [(1, u "java/lang/Cloneable"), (0, .class_ 1), (0, u "java/lang/Object"), (0, .class_ 3)] 3

/-- java/lang/Cloneable -/
def k16 : Class := { plain "java/lang/Cloneable" (some 0) with
  accessFlags := 1537
  interfaces := #[]
  cf := some (fileOf pool16 2 #[] #[] 1537 4 #[] #[])
  fields := #[]
  methods := #[]
  instanceTypes := #[]
  staticTypes := #[]
  resolved := Array.replicate 8 none
  statics := none }

/-- the primitive byte -/
def k17 : Class := { plain "byte" none with kind := .primitive 'B', accessFlags := 0x411 }
/-- [B -/
def k18 : Class := { plain "[B" (some 0) with kind := .array 17 .byte, interfaces := #[16, 2], accessFlags := 1041 }

/-- the primitive char -/
def k19 : Class := { plain "char" none with kind := .primitive 'C', accessFlags := 0x411 }
/-- [C -/
def k20 : Class := { plain "[C" (some 0) with kind := .array 19 .char, interfaces := #[16, 2], accessFlags := 1041 }

/-- the primitive int -/
def k21 : Class := { plain "int" none with kind := .primitive 'I', accessFlags := 0x411 }
/-- [I -/
def k22 : Class := { plain "[I" (some 0) with kind := .array 21 .int, interfaces := #[16, 2], accessFlags := 1041 }

def heap : Heap := #[{ cls := 7, slots := #[.long 0, .int 1, .null, .int 0, .null, .int 0, .int 0], vm := .statics 7 },
  { cls := 12, slots := #[.null, .ref 3, .null, .null], vm := .statics 12 },
  { cls := 14, slots := #[.null, .null, .null], vm := .statics 14 },
  { cls := 12, slots := #[.null, .int 1, .int 0], vm := .none }]
def classes : Array Class := #[k0, k1, k2, k3, k4, k5, k6, k7, k8, k9, k10, k11, k12, k13, k14, k15, k16, k17, k18, k19, k20, k21, k22]
def interned : List (Array UInt16 × Addr) := []
def slotsUsed : Nat := 17
def theMethod : MethodId := ⟨1, 2⟩
def args0 : Array Value := #[.int 5, .int 5, .int 5, .int 5]
def aboutOver (below : List Frame) : State where
  vm := { classes := classes, interned := interned.toArray }
  heap := heap
  slotsUsed := slotsUsed
  threads := #[{ frames := .invoking theMethod args0 :: below }]
def below0 : List Frame := [.native { method := ⟨0, 0⟩, args := #[] }]
def about1 : State := aboutOver below0
def p0 : Program := .bare "" "" ""
def e0 : Env := launch0.env 0 0 0
theorem w_frames : about1.frames = Frame.invoking theMethod args0 :: below0 := rfl
set_option maxRecDepth 65536 in
theorem w_args : argsFit about1.vm theMethod args0 = true := by decide +kernel
set_option maxRecDepth 65536 in
theorem w_heap : heapFits about1 = true := by decide +kernel
set_option maxRecDepth 65536 in
theorem w_runnable : about1.curStatus? = some .runnable := by decide +kernel
set_option maxRecDepth 65536 in
theorem w_alone : about1.alone = true := by decide +kernel
set_option maxRecDepth 65536 in
theorem w_named : about1.methodNamed? x = some theMethod := by decide +kernel
set_option maxRecDepth 65536 in
theorem w_hears : about1.hears theMethod below0 = true := by decide +kernel
set_option maxRecDepth 65536 in
theorem w_ripe : about1.ripe theMethod args0 below0 = true := by decide +kernel
theorem w_running : about1.status = .running := rfl
set_option maxRecDepth 65536 in
theorem w_room : about1.hasRoom e0.platform room_1 = true :=
  launch0.hasRoom_least _ room_1 (by decide +kernel) (by decide +kernel) (by decide +kernel) (by decide +kernel) (by decide +kernel) (by decide +kernel)
theorem allAtoms_all (ts : List Jvm.Cond) (a : Array Jvm.Value) (st : Jvm.State) : (allAtoms ts).before a st = ts.all (fun c => c.before a st) := by
  induction ts with
  | nil => rfl
  | cons c t ih =>
    show (Jvm.Cond.and c (allAtoms t)).before a st = _
    rw [Jvm.Cond.before_and, ih, List.all_cons]
def words1 : List Jvm.Cond := Jvm.Cond.code x code maxLocals ret :: tables_1
/-- a 'code' word, met by the world's own term for the bytes: nothing is compared byte by byte -/
theorem code_word {y : MethodName} {bytes : ByteArray} {mx : Nat} {rt : Option FieldType} {a : Array Value} {s : State} {m : MethodId} {meth : Method} {c : Code} (h1 : s.methodNamed? y = some m) (h2 : s.vm.method? m = some meth) (h3 : meth.code = some c) (h4 : c.code = bytes)
    (h5 : (c.maxLocals == mx && c.exceptionTable.isEmpty && decide (c.maxStack ≤ mostOperands) && decide (meth.sig.returnType = rt) && !meth.locks && decide (parseMethodDescriptor y.desc = some meth.sig)) = true) : (Jvm.Cond.code y bytes mx rt).before a s = true := by
  simp only [Bool.and_eq_true, beq_iff_eq, Bool.not_eq_true', decide_eq_true_eq] at h5
  obtain ⟨⟨⟨⟨⟨g1, g2⟩, g3⟩, g4⟩, g5⟩, g6⟩ := h5
  simp [Cond.before, Cond.holds, Cond.value, h1, h2, h3, h4, g1, g2, g3, g4, g5, g6]
def isCode : Jvm.Cond → Bool
  | .code _ _ _ _ => true
  | _ => false
theorem all_split {L : List Jvm.Cond} {P : Jvm.Cond → Bool} (h1 : L.all (fun c => isCode c || P c) = true) (h2 : ∀ c ∈ L.filter isCode, P c = true) : L.all P = true := by
  refine List.all_eq_true.mpr fun c hc => ?_
  have h := List.all_eq_true.mp h1 c hc
  rcases Bool.eq_false_or_eq_true (isCode c) with hi | hi
  · exact h2 c (List.mem_filter.mpr ⟨hc, hi⟩)
  · simpa [hi] using h
set_option maxRecDepth 65536 in
theorem w_c0 : (Jvm.Cond.code x code maxLocals ret).before args0 about1 = true := code_word (m := ⟨1, 2⟩) (meth := k1m2) (c := k1c2) (by decide +kernel) rfl rfl rfl (by decide +kernel)
set_option maxRecDepth 65536 in
theorem w_c1 : (Jvm.Cond.code ({ cls := "com/example/nuntius/nuntius/http/ParameterValueNumberPinLaw", name := "drawn", desc := "(IIII)Ljava/lang/String;" } : Jvm.MethodName) method_2_code (7 : Nat) (Option.some (Jvm.ClassFile.FieldType.object "java/lang/String"))).before args0 about1 = true := code_word (m := ⟨1, 1⟩) (meth := k1m1) (c := k1c1) (by decide +kernel) rfl rfl rfl (by decide +kernel)
set_option maxRecDepth 65536 in
theorem w_c2 : (Jvm.Cond.code ({ cls := "java/lang/String", name := "<init>", desc := "([C)V" } : Jvm.MethodName) jdk_42_method_3_code (2 : Nat) (Option.none : Option Jvm.ClassFile.FieldType)).before args0 about1 = true := code_word (m := ⟨7, 1⟩) (meth := k7m1) (c := k7c1) (by decide +kernel) rfl rfl rfl (by decide +kernel)
set_option maxRecDepth 65536 in
theorem w_c3 : (Jvm.Cond.code ({ cls := "java/lang/String", name := "<init>", desc := "([CIILjava/lang/Void;)V" } : Jvm.MethodName) jdk_42_method_149_code (6 : Nat) (Option.none : Option Jvm.ClassFile.FieldType)).before args0 about1 = true := code_word (m := ⟨7, 4⟩) (meth := k7m4) (c := k7c4) (by decide +kernel) rfl rfl rfl (by decide +kernel)
set_option maxRecDepth 65536 in
theorem w_c4 : (Jvm.Cond.code ({ cls := "java/lang/Object", name := "<init>", desc := "()V" } : Jvm.MethodName) object_method_1_code (1 : Nat) (Option.none : Option Jvm.ClassFile.FieldType)).before args0 about1 = true := code_word (m := ⟨0, 0⟩) (meth := k0m0) (c := k0c0) (by decide +kernel) rfl rfl rfl (by decide +kernel)
set_option maxRecDepth 65536 in
theorem w_c5 : (Jvm.Cond.code ({ cls := "java/lang/StringUTF16", name := "compress", desc := "([CII)[B" } : Jvm.MethodName) jdk_52_method_16_code (6 : Nat) (Option.some (Jvm.ClassFile.FieldType.array Jvm.ClassFile.FieldType.byte))).before args0 about1 = true := code_word (m := ⟨8, 2⟩) (meth := k8m2) (c := k8c2) (by decide +kernel) rfl rfl rfl (by decide +kernel)
set_option maxRecDepth 65536 in
theorem w_c6 : (Jvm.Cond.code ({ cls := "java/lang/StringUTF16", name := "compress", desc := "([CI[BII)I" } : Jvm.MethodName) jdk_52_method_21_code (7 : Nat) (Option.some Jvm.ClassFile.FieldType.int)).before args0 about1 = true := code_word (m := ⟨8, 3⟩) (meth := k8m3) (c := k8c3) (by decide +kernel) rfl rfl rfl (by decide +kernel)
set_option maxRecDepth 65536 in
theorem w_c7 : (Jvm.Cond.code ({ cls := "java/lang/StringUTF16", name := "coderFromArrayLen", desc := "([BI)B" } : Jvm.MethodName) jdk_52_method_15_code (2 : Nat) (Option.some Jvm.ClassFile.FieldType.byte)).before args0 about1 = true := code_word (m := ⟨8, 1⟩) (meth := k8m1) (c := k8c1) (by decide +kernel) rfl rfl rfl (by decide +kernel)
set_option maxRecDepth 65536 in
theorem w_c8 : (Jvm.Cond.code ({ cls := "com/example/nuntius/nuntius/http/ParameterValue", name := "number", desc := "(Ljava/lang/String;)Lcom/example/nuntius/nuntius/http/ParameterValue;" } : Jvm.MethodName) prog_15_method_3_code (1 : Nat) (Option.some (Jvm.ClassFile.FieldType.object "com/example/nuntius/nuntius/http/ParameterValue"))).before args0 about1 = true := code_word (m := ⟨10, 1⟩) (meth := k10m1) (c := k10c1) (by decide +kernel) rfl rfl rfl (by decide +kernel)
set_option maxRecDepth 65536 in
theorem w_c9 : (Jvm.Cond.code ({ cls := "com/example/nuntius/nuntius/http/ParameterValue", name := "<init>", desc := "(Lcom/example/nuntius/nuntius/http/ParameterValue$Kind;Ljava/lang/String;)V" } : Jvm.MethodName) prog_15_method_1_code (3 : Nat) (Option.none : Option Jvm.ClassFile.FieldType)).before args0 about1 = true := code_word (m := ⟨10, 0⟩) (meth := k10m0) (c := k10c0) (by decide +kernel) rfl rfl rfl (by decide +kernel)
set_option maxRecDepth 65536 in
theorem w_c10 : (Jvm.Cond.code ({ cls := "java/lang/Record", name := "<init>", desc := "()V" } : Jvm.MethodName) jdk_30_method_1_code (1 : Nat) (Option.none : Option Jvm.ClassFile.FieldType)).before args0 about1 = true := code_word (m := ⟨9, 0⟩) (meth := k9m0) (c := k9c0) (by decide +kernel) rfl rfl rfl (by decide +kernel)
set_option maxRecDepth 65536 in
theorem w_c11 : (Jvm.Cond.code ({ cls := "com/example/nuntius/nuntius/http/ParameterValue", name := "kind", desc := "()Lcom/example/nuntius/nuntius/http/ParameterValue$Kind;" } : Jvm.MethodName) prog_15_method_7_code (1 : Nat) (Option.some (Jvm.ClassFile.FieldType.object "com/example/nuntius/nuntius/http/ParameterValue$Kind"))).before args0 about1 = true := code_word (m := ⟨10, 2⟩) (meth := k10m2) (c := k10c2) (by decide +kernel) rfl rfl rfl (by decide +kernel)
set_option maxRecDepth 65536 in
theorem w_c12 : (Jvm.Cond.code ({ cls := "com/example/nuntius/nuntius/http/ParameterValue", name := "text", desc := "()Ljava/lang/String;" } : Jvm.MethodName) prog_15_method_8_code (1 : Nat) (Option.some (Jvm.ClassFile.FieldType.object "java/lang/String"))).before args0 about1 = true := code_word (m := ⟨10, 3⟩) (meth := k10m3) (c := k10c3) (by decide +kernel) rfl rfl rfl (by decide +kernel)
set_option maxRecDepth 65536 in
theorem w_c13 : (Jvm.Cond.code ({ cls := "java/lang/String", name := "length", desc := "()I" } : Jvm.MethodName) jdk_42_method_54_code (1 : Nat) (Option.some Jvm.ClassFile.FieldType.int)).before args0 about1 = true := code_word (m := ⟨7, 2⟩) (meth := k7m2) (c := k7c2) (by decide +kernel) rfl rfl rfl (by decide +kernel)
set_option maxRecDepth 65536 in
theorem w_c14 : (Jvm.Cond.code ({ cls := "java/lang/String", name := "coder", desc := "()B" } : Jvm.MethodName) jdk_42_method_152_code (1 : Nat) (Option.some Jvm.ClassFile.FieldType.byte)).before args0 about1 = true := code_word (m := ⟨7, 5⟩) (meth := k7m5) (c := k7c5) (by decide +kernel) rfl rfl rfl (by decide +kernel)
set_option maxRecDepth 65536 in
theorem w_c15 : (Jvm.Cond.code ({ cls := "java/lang/String", name := "equals", desc := "(Ljava/lang/Object;)Z" } : Jvm.MethodName) jdk_42_method_66_code (3 : Nat) (Option.some Jvm.ClassFile.FieldType.boolean)).before args0 about1 = true := code_word (m := ⟨7, 3⟩) (meth := k7m3) (c := k7c3) (by decide +kernel) rfl rfl rfl (by decide +kernel)
def codes1 : List Jvm.Cond := [Jvm.Cond.code x code maxLocals ret, Jvm.Cond.code ({ cls := "com/example/nuntius/nuntius/http/ParameterValueNumberPinLaw", name := "drawn", desc := "(IIII)Ljava/lang/String;" } : Jvm.MethodName) method_2_code (7 : Nat) (Option.some (Jvm.ClassFile.FieldType.object "java/lang/String")), Jvm.Cond.code ({ cls := "java/lang/String", name := "<init>", desc := "([C)V" } : Jvm.MethodName) jdk_42_method_3_code (2 : Nat) (Option.none : Option Jvm.ClassFile.FieldType), Jvm.Cond.code ({ cls := "java/lang/String", name := "<init>", desc := "([CIILjava/lang/Void;)V" } : Jvm.MethodName) jdk_42_method_149_code (6 : Nat) (Option.none : Option Jvm.ClassFile.FieldType), Jvm.Cond.code ({ cls := "java/lang/Object", name := "<init>", desc := "()V" } : Jvm.MethodName) object_method_1_code (1 : Nat) (Option.none : Option Jvm.ClassFile.FieldType), Jvm.Cond.code ({ cls := "java/lang/StringUTF16", name := "compress", desc := "([CII)[B" } : Jvm.MethodName) jdk_52_method_16_code (6 : Nat) (Option.some (Jvm.ClassFile.FieldType.array Jvm.ClassFile.FieldType.byte)), Jvm.Cond.code ({ cls := "java/lang/StringUTF16", name := "compress", desc := "([CI[BII)I" } : Jvm.MethodName) jdk_52_method_21_code (7 : Nat) (Option.some Jvm.ClassFile.FieldType.int), Jvm.Cond.code ({ cls := "java/lang/StringUTF16", name := "coderFromArrayLen", desc := "([BI)B" } : Jvm.MethodName) jdk_52_method_15_code (2 : Nat) (Option.some Jvm.ClassFile.FieldType.byte), Jvm.Cond.code ({ cls := "com/example/nuntius/nuntius/http/ParameterValue", name := "number", desc := "(Ljava/lang/String;)Lcom/example/nuntius/nuntius/http/ParameterValue;" } : Jvm.MethodName) prog_15_method_3_code (1 : Nat) (Option.some (Jvm.ClassFile.FieldType.object "com/example/nuntius/nuntius/http/ParameterValue")), Jvm.Cond.code ({ cls := "com/example/nuntius/nuntius/http/ParameterValue", name := "<init>", desc := "(Lcom/example/nuntius/nuntius/http/ParameterValue$Kind;Ljava/lang/String;)V" } : Jvm.MethodName) prog_15_method_1_code (3 : Nat) (Option.none : Option Jvm.ClassFile.FieldType), Jvm.Cond.code ({ cls := "java/lang/Record", name := "<init>", desc := "()V" } : Jvm.MethodName) jdk_30_method_1_code (1 : Nat) (Option.none : Option Jvm.ClassFile.FieldType), Jvm.Cond.code ({ cls := "com/example/nuntius/nuntius/http/ParameterValue", name := "kind", desc := "()Lcom/example/nuntius/nuntius/http/ParameterValue$Kind;" } : Jvm.MethodName) prog_15_method_7_code (1 : Nat) (Option.some (Jvm.ClassFile.FieldType.object "com/example/nuntius/nuntius/http/ParameterValue$Kind")), Jvm.Cond.code ({ cls := "com/example/nuntius/nuntius/http/ParameterValue", name := "text", desc := "()Ljava/lang/String;" } : Jvm.MethodName) prog_15_method_8_code (1 : Nat) (Option.some (Jvm.ClassFile.FieldType.object "java/lang/String")), Jvm.Cond.code ({ cls := "java/lang/String", name := "length", desc := "()I" } : Jvm.MethodName) jdk_42_method_54_code (1 : Nat) (Option.some Jvm.ClassFile.FieldType.int), Jvm.Cond.code ({ cls := "java/lang/String", name := "coder", desc := "()B" } : Jvm.MethodName) jdk_42_method_152_code (1 : Nat) (Option.some Jvm.ClassFile.FieldType.byte), Jvm.Cond.code ({ cls := "java/lang/String", name := "equals", desc := "(Ljava/lang/Object;)Z" } : Jvm.MethodName) jdk_42_method_66_code (3 : Nat) (Option.some Jvm.ClassFile.FieldType.boolean)]
set_option maxRecDepth 65536 in
theorem codes_eq : words1.filter isCode = codes1 := rfl
theorem w_codes : ∀ c ∈ words1.filter isCode, c.before args0 about1 = true := by
  rw [codes_eq]
  intro c hc
  simp only [codes1, List.mem_cons, List.not_mem_nil, or_false] at hc
  rcases hc with rfl | rfl | rfl | rfl | rfl | rfl | rfl | rfl | rfl | rfl | rfl | rfl | rfl | rfl | rfl | rfl
  · exact w_c0
  · exact w_c1
  · exact w_c2
  · exact w_c3
  · exact w_c4
  · exact w_c5
  · exact w_c6
  · exact w_c7
  · exact w_c8
  · exact w_c9
  · exact w_c10
  · exact w_c11
  · exact w_c12
  · exact w_c13
  · exact w_c14
  · exact w_c15
set_option maxRecDepth 65536 in
theorem w_t1 : (words1.take 24).all (fun c => isCode c || c.before args0 about1) = true := by decide +kernel
set_option maxRecDepth 65536 in
theorem w_t2 : ((words1.drop 24).take 24).all (fun c => isCode c || c.before args0 about1) = true := by decide +kernel
set_option maxRecDepth 65536 in
theorem w_t3 : (((words1.drop 24).drop 24).take 24).all (fun c => isCode c || c.before args0 about1) = true := by decide +kernel
set_option maxRecDepth 65536 in
theorem w_t4 : (((words1.drop 24).drop 24).drop 24).all (fun c => isCode c || c.before args0 about1) = true := by decide +kernel
theorem w_tables : (allAtoms (Jvm.Cond.code x code maxLocals ret :: tables_1)).before args0 about1 = true := by
  rw [allAtoms_all]
  show words1.all (fun c => c.before args0 about1) = true
  refine all_split ?_ w_codes
  rw [← List.take_append_drop 24 words1, List.all_append, w_t1, ← List.take_append_drop 24 (words1.drop 24), List.all_append, w_t2, ← List.take_append_drop 24 ((words1.drop 24).drop 24), List.all_append, w_t3, w_t4]
  rfl
set_option maxRecDepth 65536 in
theorem w_rest : rest_1_c.before args0 about1 = true := by decide +kernel
set_option maxRecDepth 65536 in
theorem w_case : (Jvm.Cond.and given_1 narrow_1).before args0 about1 = true := by decide +kernel
set_option maxRecDepth 65536 in
theorem w_consts : constsHeld consts_1 about1 := Jvm.Lit.constsHeldB_iff.mp (by decide +kernel)
theorem w_applies : (headSpec (Jvm.Cond.code x code maxLocals ret :: tables_1) room_1).applies x e0.platform about1 = true :=
  (Spec.applies_iff w_frames).mpr ⟨w_running, w_runnable, w_alone, w_named, w_hears, w_ripe, w_room, w_tables⟩
theorem atStart : AtStart classFile x code maxLocals ret World_1 tables_1 room_1 Calls_1 rest_1 Pre_1 launch0 p0 e0 about1 theMethod args0 below0 :=
  ⟨lists_1, trivial, launch0.admits_env _ _ _, launch0.least_env, fairChoices_fair.cas, fairChoices_fair.clock, w_frames, w_args, w_heap, w_applies, ⟨w_consts, trivial⟩, w_rest, w_case⟩
end start1
theorem witness_1 : WitnessClaimed_1 := ⟨start1.p0, start1.e0, start1.about1, start1.theMethod, start1.args0, start1.below0, start1.atStart⟩
end Jvm.Pilot.@@N@@
