import JvmDerived
import JvmDerived.Pilot.@@N@@Statement
import JvmDerived.Pilot.@@N@@Code
set_option linter.unusedVariables false
set_option linter.unusedSimpArgs false
@@BLOCK:NumsL.lean.txt@@
namespace Jvm.OwnKit
open Sem ClassFile Op Lib Jvm.Stand Jvm.Free Jvm.LawKit Jvm.RoadKit
/-- from t the invocation runs to its end, and Post holds there -/
def Goes (p : Program) (e : Env) (below : List Frame) (Post : Outcome → State → Prop) (t : State) : Prop :=
  ∃ s₂ o, Steps p.tables e below t s₂ ∧ s₂.status = .running ∧ Ended s₂ below o ∧ Post o s₂
def i2c (x : Int32) : Int32 := x.toUInt32.toUInt16.toUInt32.toInt32
def i2b (x : Int32) : Int32 := x.toInt8.toInt32
section Goes
variable {p : Program} {e : Env} {below : List Frame} {Post : Outcome → State → Prop} {T T' t t' : State} {m : MethodId} {c : Code} {pc : Nat} {ls : Array Slot} {st rest : List Value}
theorem Goes.go (st : ∀ tg, Steps p.tables e below t' tg → Steps p.tables e below t tg) (h : Goes p e below Post t') : Goes p e below Post t := by
  obtain ⟨s₂, o, h1, h2⟩ := h
  exact ⟨s₂, o, st _ h1, h2⟩
theorem Goes.run (st : Steps p.tables e below t t') (h : Goes p e below Post t') : Goes p e below Post t := by
  obtain ⟨s₂, o, h1, h2⟩ := h
  exact ⟨s₂, o, st.trans h1, h2⟩
theorem Goes.cast {g g' : JFrame} (q : g = g') (h : Goes p e below Post (T.setTop g')) : Goes p e below Post (T.setTop g) := q ▸ h
theorem zeq {x : Int32} (h : x = 0) : ifCond.holds .eq x = true ∧ ifCond.holds .ne x = false := by subst h; exact ⟨rfl, rfl⟩
theorem zne {x : Int32} (h : ¬ x = 0) : ifCond.holds .eq x = false ∧ ifCond.holds .ne x = true := by
  have q : (x == 0) = false := by simp [h]
  exact ⟨q, by show (!(x == 0)) = true; rw [q]; rfl⟩
theorem zlt {x : Int32} (h : x < 0) : ifCond.holds .lt x = true ∧ ifCond.holds .ge x = false := ⟨decide_eq_true h, decide_eq_false (Int32.not_le.mpr h)⟩
theorem znl {x : Int32} (h : ¬ x < 0) : ifCond.holds .lt x = false ∧ ifCond.holds .ge x = true := ⟨decide_eq_false h, decide_eq_true (Int32.not_lt.mp h)⟩
theorem zgt {x : Int32} (h : 0 < x) : ifCond.holds .gt x = true ∧ ifCond.holds .le x = false := ⟨decide_eq_true h, decide_eq_false (Int32.not_le.mpr h)⟩
theorem zng {x : Int32} (h : ¬ 0 < x) : ifCond.holds .gt x = false ∧ ifCond.holds .le x = true := ⟨decide_eq_false h, decide_eq_true (Int32.not_lt.mp h)⟩
namespace G
theorem iload (h : At T m c below) (hx : p.tables.exec = Jvm.exec) (pc' : Nat) {k : Nat} {v : Int32} (hd : decode c.code pc = .ok (.iload k, 2)) (hl : ls[k]? = some (.val (.int v))) (hp : pc + 2 = pc')
    (K : Goes p e below Post (T.setTop (mkF m pc' ls (.int v :: st)))) : Goes p e below Post (T.setTop (mkF m pc ls st)) := by
  subst hp; exact Goes.go (fun _ k => XS.iload h hx rfl hd hl k) K
theorem iloadN (h : At T m c below) (hx : p.tables.exec = Jvm.exec) (pc' : Nat) {k : Fin 4} {v : Int32} (hd : decode c.code pc = .ok (.iload_n k, 1)) (hl : ls[k.val]? = some (.val (.int v))) (hp : pc + 1 = pc')
    (K : Goes p e below Post (T.setTop (mkF m pc' ls (.int v :: st)))) : Goes p e below Post (T.setTop (mkF m pc ls st)) := by
  subst hp; exact Goes.go (fun _ k => XS.iloadN h hx rfl hd hl k) K
theorem lload (h : At T m c below) (hx : p.tables.exec = Jvm.exec) (pc' : Nat) {k : Nat} {v : Int64} (hd : decode c.code pc = .ok (.lload k, 2)) (hl : ls[k]? = some (.val (.long v))) (hp : pc + 2 = pc')
    (K : Goes p e below Post (T.setTop (mkF m pc' ls (.long v :: st)))) : Goes p e below Post (T.setTop (mkF m pc ls st)) := by
  subst hp; exact Goes.go (fun _ k => XT.lload h hx rfl hd hl k) K
theorem lloadN (h : At T m c below) (hx : p.tables.exec = Jvm.exec) (pc' : Nat) {k : Fin 4} {v : Int64} (hd : decode c.code pc = .ok (.lload_n k, 1)) (hl : ls[k.val]? = some (.val (.long v))) (hp : pc + 1 = pc')
    (K : Goes p e below Post (T.setTop (mkF m pc' ls (.long v :: st)))) : Goes p e below Post (T.setTop (mkF m pc ls st)) := by
  subst hp; exact Goes.go (fun _ k => XT.lloadN h hx rfl hd hl k) K
theorem aload (h : At T m c below) (hx : p.tables.exec = Jvm.exec) (pc' : Nat) {k : Nat} {v : Value} (hd : decode c.code pc = .ok (.aload k, 2)) (hl : ls[k]? = some (.val v)) (hv : v.isRef = true) (hp : pc + 2 = pc')
    (K : Goes p e below Post (T.setTop (mkF m pc' ls (v :: st)))) : Goes p e below Post (T.setTop (mkF m pc ls st)) := by
  subst hp; exact Goes.go (fun _ k => XS.aload h hx rfl hd hl hv k) K
theorem aloadN (h : At T m c below) (hx : p.tables.exec = Jvm.exec) (pc' : Nat) {k : Fin 4} {v : Value} (hd : decode c.code pc = .ok (.aload_n k, 1)) (hl : ls[k.val]? = some (.val v)) (hv : v.isRef = true) (hp : pc + 1 = pc')
    (K : Goes p e below Post (T.setTop (mkF m pc' ls (v :: st)))) : Goes p e below Post (T.setTop (mkF m pc ls st)) := by
  subst hp; exact Goes.go (fun _ k => XS.aloadN h hx rfl hd hl hv k) K
theorem iconst (h : At T m c below) (hx : p.tables.exec = Jvm.exec) (pc' : Nat) (z : Int32) {i : Int} (hd : decode c.code pc = .ok (.iconst i, 1)) (hz : Int32.ofInt i = z) (hp : pc + 1 = pc')
    (K : Goes p e below Post (T.setTop (mkF m pc' ls (.int z :: st)))) : Goes p e below Post (T.setTop (mkF m pc ls st)) := by
  subst hp hz; exact Goes.go (fun _ k => XS.iconst h hx rfl hd k) K
theorem bipush (h : At T m c below) (hx : p.tables.exec = Jvm.exec) (pc' : Nat) (z : Int32) {i : Int} (hd : decode c.code pc = .ok (.bipush i, 2)) (hz : (Int8.ofInt i).toInt32 = z) (hp : pc + 2 = pc')
    (K : Goes p e below Post (T.setTop (mkF m pc' ls (.int z :: st)))) : Goes p e below Post (T.setTop (mkF m pc ls st)) := by
  subst hp hz; exact Goes.go (fun _ k => XS.bipush h hx rfl hd k) K
theorem sipush (h : At T m c below) (hx : p.tables.exec = Jvm.exec) (pc' : Nat) (z : Int32) {i : Int} (hd : decode c.code pc = .ok (.sipush i, 3)) (hz : (Int16.ofInt i).toInt32 = z) (hp : pc + 3 = pc')
    (K : Goes p e below Post (T.setTop (mkF m pc' ls (.int z :: st)))) : Goes p e below Post (T.setTop (mkF m pc ls st)) := by
  subst hp hz; exact Goes.go (fun _ k => XS.sipush h hx rfl hd k) K
theorem lconst (h : At T m c below) (hx : p.tables.exec = Jvm.exec) (pc' : Nat) (z : Int64) {i : Fin 2} (hd : decode c.code pc = .ok (.lconst i, 1)) (hz : Int64.ofNat i = z) (hp : pc + 1 = pc')
    (K : Goes p e below Post (T.setTop (mkF m pc' ls (.long z :: st)))) : Goes p e below Post (T.setTop (mkF m pc ls st)) := by
  subst hp hz; exact Goes.go (fun _ k => XT.lconst h hx rfl hd k) K
theorem aconstNull (h : At T m c below) (hx : p.tables.exec = Jvm.exec) (pc' : Nat)  (hd : decode c.code pc = .ok (.aconst_null, 1)) (hp : pc + 1 = pc')
    (K : Goes p e below Post (T.setTop (mkF m pc' ls (.null :: st)))) : Goes p e below Post (T.setTop (mkF m pc ls st)) := by
  subst hp; exact Goes.go (fun _ k => XS.aconstNull h hx rfl hd  k) K
theorem iadd (h : At T m c below) (hx : p.tables.exec = Jvm.exec) (pc' : Nat) {x y : Int32} (hd : decode c.code pc = .ok (.iadd, 1)) (hp : pc + 1 = pc')
    (K : Goes p e below Post (T.setTop (mkF m pc' ls (.int (x + y) :: st)))) : Goes p e below Post (T.setTop (mkF m pc ls (.int y :: .int x :: st))) := by
  subst hp; exact Goes.go (fun _ k => XS.iadd h hx rfl hd rfl k) K
theorem isub (h : At T m c below) (hx : p.tables.exec = Jvm.exec) (pc' : Nat) {x y : Int32} (hd : decode c.code pc = .ok (.isub, 1)) (hp : pc + 1 = pc')
    (K : Goes p e below Post (T.setTop (mkF m pc' ls (.int (x - y) :: st)))) : Goes p e below Post (T.setTop (mkF m pc ls (.int y :: .int x :: st))) := by
  subst hp; exact Goes.go (fun _ k => XS.isub h hx rfl hd rfl k) K
theorem imul (h : At T m c below) (hx : p.tables.exec = Jvm.exec) (pc' : Nat) {x y : Int32} (hd : decode c.code pc = .ok (.imul, 1)) (hp : pc + 1 = pc')
    (K : Goes p e below Post (T.setTop (mkF m pc' ls (.int (x * y) :: st)))) : Goes p e below Post (T.setTop (mkF m pc ls (.int y :: .int x :: st))) := by
  subst hp; exact Goes.go (fun _ k => XS.imul h hx rfl hd rfl k) K
theorem iand (h : At T m c below) (hx : p.tables.exec = Jvm.exec) (pc' : Nat) {x y : Int32} (hd : decode c.code pc = .ok (.iand, 1)) (hp : pc + 1 = pc')
    (K : Goes p e below Post (T.setTop (mkF m pc' ls (.int (x &&& y) :: st)))) : Goes p e below Post (T.setTop (mkF m pc ls (.int y :: .int x :: st))) := by
  subst hp; exact Goes.go (fun _ k => XS.iand h hx rfl hd rfl k) K
theorem ior (h : At T m c below) (hx : p.tables.exec = Jvm.exec) (pc' : Nat) {x y : Int32} (hd : decode c.code pc = .ok (.ior, 1)) (hp : pc + 1 = pc')
    (K : Goes p e below Post (T.setTop (mkF m pc' ls (.int (x ||| y) :: st)))) : Goes p e below Post (T.setTop (mkF m pc ls (.int y :: .int x :: st))) := by
  subst hp; exact Goes.go (fun _ k => XT.ior h hx rfl hd rfl k) K
theorem ixor (h : At T m c below) (hx : p.tables.exec = Jvm.exec) (pc' : Nat) {x y : Int32} (hd : decode c.code pc = .ok (.ixor, 1)) (hp : pc + 1 = pc')
    (K : Goes p e below Post (T.setTop (mkF m pc' ls (.int (x ^^^ y) :: st)))) : Goes p e below Post (T.setTop (mkF m pc ls (.int y :: .int x :: st))) := by
  subst hp; exact Goes.go (fun _ k => XT.ixor h hx rfl hd rfl k) K
theorem ishl (h : At T m c below) (hx : p.tables.exec = Jvm.exec) (pc' : Nat) {x y : Int32} (hd : decode c.code pc = .ok (.ishl, 1)) (hp : pc + 1 = pc')
    (K : Goes p e below Post (T.setTop (mkF m pc' ls (.int (x <<< (y &&& 31)) :: st)))) : Goes p e below Post (T.setTop (mkF m pc ls (.int y :: .int x :: st))) := by
  subst hp; exact Goes.go (fun _ k => XT.ishl h hx rfl hd rfl k) K
theorem ishr (h : At T m c below) (hx : p.tables.exec = Jvm.exec) (pc' : Nat) {x y : Int32} (hd : decode c.code pc = .ok (.ishr, 1)) (hp : pc + 1 = pc')
    (K : Goes p e below Post (T.setTop (mkF m pc' ls (.int (x >>> (y &&& 31)) :: st)))) : Goes p e below Post (T.setTop (mkF m pc ls (.int y :: .int x :: st))) := by
  subst hp; exact Goes.go (fun _ k => XT.ishr h hx rfl hd rfl k) K
theorem iushr (h : At T m c below) (hx : p.tables.exec = Jvm.exec) (pc' : Nat) {x y : Int32} (hd : decode c.code pc = .ok (.iushr, 1)) (hp : pc + 1 = pc')
    (K : Goes p e below Post (T.setTop (mkF m pc' ls (.int (XT.ushr x y) :: st)))) : Goes p e below Post (T.setTop (mkF m pc ls (.int y :: .int x :: st))) := by
  subst hp; exact Goes.go (fun _ k => XT.iushr h hx rfl hd rfl k) K
theorem ladd (h : At T m c below) (hx : p.tables.exec = Jvm.exec) (pc' : Nat) {x y : Int64} (hd : decode c.code pc = .ok (.ladd, 1)) (hp : pc + 1 = pc')
    (K : Goes p e below Post (T.setTop (mkF m pc' ls (.long (x + y) :: st)))) : Goes p e below Post (T.setTop (mkF m pc ls (.long y :: .long x :: st))) := by
  subst hp; exact Goes.go (fun _ k => XT.ladd h hx rfl hd rfl k) K
theorem lsub (h : At T m c below) (hx : p.tables.exec = Jvm.exec) (pc' : Nat) {x y : Int64} (hd : decode c.code pc = .ok (.lsub, 1)) (hp : pc + 1 = pc')
    (K : Goes p e below Post (T.setTop (mkF m pc' ls (.long (x - y) :: st)))) : Goes p e below Post (T.setTop (mkF m pc ls (.long y :: .long x :: st))) := by
  subst hp; exact Goes.go (fun _ k => XT.lsub h hx rfl hd rfl k) K
theorem lmul (h : At T m c below) (hx : p.tables.exec = Jvm.exec) (pc' : Nat) {x y : Int64} (hd : decode c.code pc = .ok (.lmul, 1)) (hp : pc + 1 = pc')
    (K : Goes p e below Post (T.setTop (mkF m pc' ls (.long (x * y) :: st)))) : Goes p e below Post (T.setTop (mkF m pc ls (.long y :: .long x :: st))) := by
  subst hp; exact Goes.go (fun _ k => XT.lmul h hx rfl hd rfl k) K
theorem land (h : At T m c below) (hx : p.tables.exec = Jvm.exec) (pc' : Nat) {x y : Int64} (hd : decode c.code pc = .ok (.land, 1)) (hp : pc + 1 = pc')
    (K : Goes p e below Post (T.setTop (mkF m pc' ls (.long (x &&& y) :: st)))) : Goes p e below Post (T.setTop (mkF m pc ls (.long y :: .long x :: st))) := by
  subst hp; exact Goes.go (fun _ k => XT.land h hx rfl hd rfl k) K
theorem lor (h : At T m c below) (hx : p.tables.exec = Jvm.exec) (pc' : Nat) {x y : Int64} (hd : decode c.code pc = .ok (.lor, 1)) (hp : pc + 1 = pc')
    (K : Goes p e below Post (T.setTop (mkF m pc' ls (.long (x ||| y) :: st)))) : Goes p e below Post (T.setTop (mkF m pc ls (.long y :: .long x :: st))) := by
  subst hp; exact Goes.go (fun _ k => XT.lor h hx rfl hd rfl k) K
theorem lxor (h : At T m c below) (hx : p.tables.exec = Jvm.exec) (pc' : Nat) {x y : Int64} (hd : decode c.code pc = .ok (.lxor, 1)) (hp : pc + 1 = pc')
    (K : Goes p e below Post (T.setTop (mkF m pc' ls (.long (x ^^^ y) :: st)))) : Goes p e below Post (T.setTop (mkF m pc ls (.long y :: .long x :: st))) := by
  subst hp; exact Goes.go (fun _ k => XT.lxor h hx rfl hd rfl k) K
theorem lshl (h : At T m c below) (hx : p.tables.exec = Jvm.exec) (pc' : Nat) {x : Int64} {y : Int32} (hd : decode c.code pc = .ok (.lshl, 1)) (hp : pc + 1 = pc')
    (K : Goes p e below Post (T.setTop (mkF m pc' ls (.long (x <<< (y.toInt64 &&& 63)) :: st)))) : Goes p e below Post (T.setTop (mkF m pc ls (.int y :: .long x :: st))) := by
  subst hp; exact Goes.go (fun _ k => XT.lshl h hx rfl hd rfl k) K
theorem lshr (h : At T m c below) (hx : p.tables.exec = Jvm.exec) (pc' : Nat) {x : Int64} {y : Int32} (hd : decode c.code pc = .ok (.lshr, 1)) (hp : pc + 1 = pc')
    (K : Goes p e below Post (T.setTop (mkF m pc' ls (.long (x >>> (y.toInt64 &&& 63)) :: st)))) : Goes p e below Post (T.setTop (mkF m pc ls (.int y :: .long x :: st))) := by
  subst hp; exact Goes.go (fun _ k => XT.lshr h hx rfl hd rfl k) K
theorem lushr (h : At T m c below) (hx : p.tables.exec = Jvm.exec) (pc' : Nat) {x : Int64} {y : Int32} (hd : decode c.code pc = .ok (.lushr, 1)) (hp : pc + 1 = pc')
    (K : Goes p e below Post (T.setTop (mkF m pc' ls (.long (XT.ushrL x y) :: st)))) : Goes p e below Post (T.setTop (mkF m pc ls (.int y :: .long x :: st))) := by
  subst hp; exact Goes.go (fun _ k => XT.lushr h hx rfl hd rfl k) K
theorem lcmp (h : At T m c below) (hx : p.tables.exec = Jvm.exec) (pc' : Nat) {x y : Int64} (hd : decode c.code pc = .ok (.lcmp, 1)) (hp : pc + 1 = pc')
    (K : Goes p e below Post (T.setTop (mkF m pc' ls (.int (XT.cmpL x y) :: st)))) : Goes p e below Post (T.setTop (mkF m pc ls (.long y :: .long x :: st))) := by
  subst hp; exact Goes.go (fun _ k => XT.lcmp h hx rfl hd rfl k) K
theorem idiv (h : At T m c below) (hx : p.tables.exec = Jvm.exec) (pc' : Nat) {x y : Int32} (hd : decode c.code pc = .ok (.idiv, 1)) (hy : y ≠ 0) (hp : pc + 1 = pc')
    (K : Goes p e below Post (T.setTop (mkF m pc' ls (.int (x / y) :: st)))) : Goes p e below Post (T.setTop (mkF m pc ls (.int y :: .int x :: st))) := by
  subst hp; exact Goes.go (fun _ k => XS.idiv h hx rfl hd rfl hy k) K
theorem irem (h : At T m c below) (hx : p.tables.exec = Jvm.exec) (pc' : Nat) {x y : Int32} (hd : decode c.code pc = .ok (.irem, 1)) (hy : y ≠ 0) (hp : pc + 1 = pc')
    (K : Goes p e below Post (T.setTop (mkF m pc' ls (.int (x % y) :: st)))) : Goes p e below Post (T.setTop (mkF m pc ls (.int y :: .int x :: st))) := by
  subst hp; exact Goes.go (fun _ k => XS.irem h hx rfl hd rfl hy (by rw [irem_eq_mod]; exact k)) K
theorem ineg (h : At T m c below) (hx : p.tables.exec = Jvm.exec) (pc' : Nat) {x : Int32} (hd : decode c.code pc = .ok (.ineg, 1)) (hp : pc + 1 = pc')
    (K : Goes p e below Post (T.setTop (mkF m pc' ls (.int (-x) :: st)))) : Goes p e below Post (T.setTop (mkF m pc ls (.int x :: st))) := by
  subst hp; exact Goes.go (fun _ k => XS.ineg h hx rfl hd rfl k) K
theorem lneg (h : At T m c below) (hx : p.tables.exec = Jvm.exec) (pc' : Nat) {x : Int64} (hd : decode c.code pc = .ok (.lneg, 1)) (hp : pc + 1 = pc')
    (K : Goes p e below Post (T.setTop (mkF m pc' ls (.long (-x) :: st)))) : Goes p e below Post (T.setTop (mkF m pc ls (.long x :: st))) := by
  subst hp; exact Goes.go (fun _ k => XT.lneg h hx rfl hd rfl k) K
theorem i2l (h : At T m c below) (hx : p.tables.exec = Jvm.exec) (pc' : Nat) {x : Int32} (hd : decode c.code pc = .ok (.i2l, 1)) (hp : pc + 1 = pc')
    (K : Goes p e below Post (T.setTop (mkF m pc' ls (.long x.toInt64 :: st)))) : Goes p e below Post (T.setTop (mkF m pc ls (.int x :: st))) := by
  subst hp; exact Goes.go (fun _ k => XT.i2l h hx rfl hd rfl k) K
theorem l2i (h : At T m c below) (hx : p.tables.exec = Jvm.exec) (pc' : Nat) {x : Int64} (hd : decode c.code pc = .ok (.l2i, 1)) (hp : pc + 1 = pc')
    (K : Goes p e below Post (T.setTop (mkF m pc' ls (.int x.toInt32 :: st)))) : Goes p e below Post (T.setTop (mkF m pc ls (.long x :: st))) := by
  subst hp; exact Goes.go (fun _ k => XT.l2i h hx rfl hd rfl k) K
theorem i2b (h : At T m c below) (hx : p.tables.exec = Jvm.exec) (pc' : Nat) {x : Int32} (hd : decode c.code pc = .ok (.i2b, 1)) (hp : pc + 1 = pc')
    (K : Goes p e below Post (T.setTop (mkF m pc' ls (.int (OwnKit.i2b x) :: st)))) : Goes p e below Post (T.setTop (mkF m pc ls (.int x :: st))) := by
  subst hp; exact Goes.go (fun _ k => XT.i2b h hx rfl hd rfl k) K
theorem i2c (h : At T m c below) (hx : p.tables.exec = Jvm.exec) (pc' : Nat) {x : Int32} (hd : decode c.code pc = .ok (.i2c, 1)) (hp : pc + 1 = pc')
    (K : Goes p e below Post (T.setTop (mkF m pc' ls (.int (OwnKit.i2c x) :: st)))) : Goes p e below Post (T.setTop (mkF m pc ls (.int x :: st))) := by
  subst hp; exact Goes.go (fun _ k => XT.i2c h hx rfl hd rfl k) K
theorem dup (h : At T m c below) (hx : p.tables.exec = Jvm.exec) (pc' : Nat) {x : Value} (hd : decode c.code pc = .ok (.dup, 1)) (hc : x.category = 1) (hp : pc + 1 = pc')
    (K : Goes p e below Post (T.setTop (mkF m pc' ls (x :: x :: st)))) : Goes p e below Post (T.setTop (mkF m pc ls (x :: st))) := by
  subst hp; exact Goes.go (fun _ k => XS.dup h hx rfl hd rfl hc k) K
theorem pop (h : At T m c below) (hx : p.tables.exec = Jvm.exec) (pc' : Nat) {x : Value} (hd : decode c.code pc = .ok (.pop, 1)) (hc : x.category = 1) (hp : pc + 1 = pc')
    (K : Goes p e below Post (T.setTop (mkF m pc' ls st))) : Goes p e below Post (T.setTop (mkF m pc ls (x :: st))) := by
  subst hp; exact Goes.go (fun _ k => XT.pop h hx rfl hd rfl hc k) K
theorem dupX1 (h : At T m c below) (hx : p.tables.exec = Jvm.exec) (pc' : Nat) {x y : Value} (hd : decode c.code pc = .ok (.dup_x1, 1)) (hc : x.category = 1) (hc' : y.category = 1) (hp : pc + 1 = pc')
    (K : Goes p e below Post (T.setTop (mkF m pc' ls (x :: y :: x :: st)))) : Goes p e below Post (T.setTop (mkF m pc ls (x :: y :: st))) := by
  subst hp; exact Goes.go (fun _ k => XT.dupX1 h hx rfl hd rfl hc hc' k) K
theorem dup2 (h : At T m c below) (hx : p.tables.exec = Jvm.exec) (pc' : Nat) {x y : Value} (hd : decode c.code pc = .ok (.dup2, 1)) (hc : x.category = 1) (hc' : y.category = 1) (hp : pc + 1 = pc')
    (K : Goes p e below Post (T.setTop (mkF m pc' ls (x :: y :: x :: y :: st)))) : Goes p e below Post (T.setTop (mkF m pc ls (x :: y :: st))) := by
  subst hp; exact Goes.go (fun _ k => XT.dup2 h hx rfl hd rfl hc hc' k) K
theorem iaddF (h : At T m c below) (hx : p.tables.exec = Jvm.exec) (pc' : Nat) (z : Int32) {x y : Int32} (hd : decode c.code pc = .ok (.iadd, 1)) (hz : x + y = z) (hp : pc + 1 = pc')
    (K : Goes p e below Post (T.setTop (mkF m pc' ls (.int z :: st)))) : Goes p e below Post (T.setTop (mkF m pc ls (.int y :: .int x :: st))) := by
  subst hz; exact iadd h hx pc' hd hp K
theorem isubF (h : At T m c below) (hx : p.tables.exec = Jvm.exec) (pc' : Nat) (z : Int32) {x y : Int32} (hd : decode c.code pc = .ok (.isub, 1)) (hz : x - y = z) (hp : pc + 1 = pc')
    (K : Goes p e below Post (T.setTop (mkF m pc' ls (.int z :: st)))) : Goes p e below Post (T.setTop (mkF m pc ls (.int y :: .int x :: st))) := by
  subst hz; exact isub h hx pc' hd hp K
theorem imulF (h : At T m c below) (hx : p.tables.exec = Jvm.exec) (pc' : Nat) (z : Int32) {x y : Int32} (hd : decode c.code pc = .ok (.imul, 1)) (hz : x * y = z) (hp : pc + 1 = pc')
    (K : Goes p e below Post (T.setTop (mkF m pc' ls (.int z :: st)))) : Goes p e below Post (T.setTop (mkF m pc ls (.int y :: .int x :: st))) := by
  subst hz; exact imul h hx pc' hd hp K
theorem iandF (h : At T m c below) (hx : p.tables.exec = Jvm.exec) (pc' : Nat) (z : Int32) {x y : Int32} (hd : decode c.code pc = .ok (.iand, 1)) (hz : x &&& y = z) (hp : pc + 1 = pc')
    (K : Goes p e below Post (T.setTop (mkF m pc' ls (.int z :: st)))) : Goes p e below Post (T.setTop (mkF m pc ls (.int y :: .int x :: st))) := by
  subst hz; exact iand h hx pc' hd hp K
theorem iorF (h : At T m c below) (hx : p.tables.exec = Jvm.exec) (pc' : Nat) (z : Int32) {x y : Int32} (hd : decode c.code pc = .ok (.ior, 1)) (hz : x ||| y = z) (hp : pc + 1 = pc')
    (K : Goes p e below Post (T.setTop (mkF m pc' ls (.int z :: st)))) : Goes p e below Post (T.setTop (mkF m pc ls (.int y :: .int x :: st))) := by
  subst hz; exact ior h hx pc' hd hp K
theorem ixorF (h : At T m c below) (hx : p.tables.exec = Jvm.exec) (pc' : Nat) (z : Int32) {x y : Int32} (hd : decode c.code pc = .ok (.ixor, 1)) (hz : x ^^^ y = z) (hp : pc + 1 = pc')
    (K : Goes p e below Post (T.setTop (mkF m pc' ls (.int z :: st)))) : Goes p e below Post (T.setTop (mkF m pc ls (.int y :: .int x :: st))) := by
  subst hz; exact ixor h hx pc' hd hp K
theorem ishlF (h : At T m c below) (hx : p.tables.exec = Jvm.exec) (pc' : Nat) (z : Int32) {x y : Int32} (hd : decode c.code pc = .ok (.ishl, 1)) (hz : x <<< (y &&& 31) = z) (hp : pc + 1 = pc')
    (K : Goes p e below Post (T.setTop (mkF m pc' ls (.int z :: st)))) : Goes p e below Post (T.setTop (mkF m pc ls (.int y :: .int x :: st))) := by
  subst hz; exact ishl h hx pc' hd hp K
theorem ishrF (h : At T m c below) (hx : p.tables.exec = Jvm.exec) (pc' : Nat) (z : Int32) {x y : Int32} (hd : decode c.code pc = .ok (.ishr, 1)) (hz : x >>> (y &&& 31) = z) (hp : pc + 1 = pc')
    (K : Goes p e below Post (T.setTop (mkF m pc' ls (.int z :: st)))) : Goes p e below Post (T.setTop (mkF m pc ls (.int y :: .int x :: st))) := by
  subst hz; exact ishr h hx pc' hd hp K
theorem iushrF (h : At T m c below) (hx : p.tables.exec = Jvm.exec) (pc' : Nat) (z : Int32) {x y : Int32} (hd : decode c.code pc = .ok (.iushr, 1)) (hz : XT.ushr x y = z) (hp : pc + 1 = pc')
    (K : Goes p e below Post (T.setTop (mkF m pc' ls (.int z :: st)))) : Goes p e below Post (T.setTop (mkF m pc ls (.int y :: .int x :: st))) := by
  subst hz; exact iushr h hx pc' hd hp K
theorem inegF (h : At T m c below) (hx : p.tables.exec = Jvm.exec) (pc' : Nat) (z : Int32) {x : Int32} (hd : decode c.code pc = .ok (.ineg, 1)) (hz : -x = z) (hp : pc + 1 = pc')
    (K : Goes p e below Post (T.setTop (mkF m pc' ls (.int z :: st)))) : Goes p e below Post (T.setTop (mkF m pc ls (.int x :: st))) := by
  subst hz; exact ineg h hx pc' hd hp K
theorem istore (h : At T m c below) (hx : p.tables.exec = Jvm.exec) (pc' : Nat) (l' : Int32 → Array Slot) {k : Nat} {x : Int32} (hd : decode c.code pc = .ok (.istore k, 2)) (hl : ∀ v, storeLocals ls k (.int v) = some (l' v)) (hp : pc + 2 = pc')
    (K : ∀ v, v = x → Goes p e below Post (T.setTop (mkF m pc' (l' v) st))) : Goes p e below Post (T.setTop (mkF m pc ls (.int x :: st))) := by
  subst hp; exact Goes.go (fun _ k => XS.istore h hx rfl hd rfl (hl x) k) (K x rfl)
theorem istoreN (h : At T m c below) (hx : p.tables.exec = Jvm.exec) (pc' : Nat) (l' : Int32 → Array Slot) {k : Fin 4} {x : Int32} (hd : decode c.code pc = .ok (.istore_n k, 1)) (hl : ∀ v, storeLocals ls k.val (.int v) = some (l' v)) (hp : pc + 1 = pc')
    (K : ∀ v, v = x → Goes p e below Post (T.setTop (mkF m pc' (l' v) st))) : Goes p e below Post (T.setTop (mkF m pc ls (.int x :: st))) := by
  subst hp; exact Goes.go (fun _ k => XS.istoreN h hx rfl hd rfl (hl x) k) (K x rfl)
theorem lstore (h : At T m c below) (hx : p.tables.exec = Jvm.exec) (pc' : Nat) (l' : Int64 → Array Slot) {k : Nat} {x : Int64} (hd : decode c.code pc = .ok (.lstore k, 2)) (hl : ∀ v, storeLocals ls k (.long v) = some (l' v)) (hp : pc + 2 = pc')
    (K : ∀ v, v = x → Goes p e below Post (T.setTop (mkF m pc' (l' v) st))) : Goes p e below Post (T.setTop (mkF m pc ls (.long x :: st))) := by
  subst hp; exact Goes.go (fun _ k => XT.lstore h hx rfl hd rfl (hl x) k) (K x rfl)
theorem lstoreN (h : At T m c below) (hx : p.tables.exec = Jvm.exec) (pc' : Nat) (l' : Int64 → Array Slot) {k : Fin 4} {x : Int64} (hd : decode c.code pc = .ok (.lstore_n k, 1)) (hl : ∀ v, storeLocals ls k.val (.long v) = some (l' v)) (hp : pc + 1 = pc')
    (K : ∀ v, v = x → Goes p e below Post (T.setTop (mkF m pc' (l' v) st))) : Goes p e below Post (T.setTop (mkF m pc ls (.long x :: st))) := by
  subst hp; exact Goes.go (fun _ k => XT.lstoreN h hx rfl hd rfl (hl x) k) (K x rfl)
theorem istoreX (h : At T m c below) (hx : p.tables.exec = Jvm.exec) (pc' : Nat) (l' : Array Slot) {k : Nat} {x : Int32} (hd : decode c.code pc = .ok (.istore k, 2)) (hl : storeLocals ls k (.int x) = some l') (hp : pc + 2 = pc')
    (K : Goes p e below Post (T.setTop (mkF m pc' l' st))) : Goes p e below Post (T.setTop (mkF m pc ls (.int x :: st))) := by
  subst hp; exact Goes.go (fun _ k => XS.istore h hx rfl hd rfl hl k) K
theorem istoreNX (h : At T m c below) (hx : p.tables.exec = Jvm.exec) (pc' : Nat) (l' : Array Slot) {k : Fin 4} {x : Int32} (hd : decode c.code pc = .ok (.istore_n k, 1)) (hl : storeLocals ls k.val (.int x) = some l') (hp : pc + 1 = pc')
    (K : Goes p e below Post (T.setTop (mkF m pc' l' st))) : Goes p e below Post (T.setTop (mkF m pc ls (.int x :: st))) := by
  subst hp; exact Goes.go (fun _ k => XS.istoreN h hx rfl hd rfl hl k) K
theorem lstoreX (h : At T m c below) (hx : p.tables.exec = Jvm.exec) (pc' : Nat) (l' : Array Slot) {k : Nat} {x : Int64} (hd : decode c.code pc = .ok (.lstore k, 2)) (hl : storeLocals ls k (.long x) = some l') (hp : pc + 2 = pc')
    (K : Goes p e below Post (T.setTop (mkF m pc' l' st))) : Goes p e below Post (T.setTop (mkF m pc ls (.long x :: st))) := by
  subst hp; exact Goes.go (fun _ k => XT.lstore h hx rfl hd rfl hl k) K
theorem lstoreNX (h : At T m c below) (hx : p.tables.exec = Jvm.exec) (pc' : Nat) (l' : Array Slot) {k : Fin 4} {x : Int64} (hd : decode c.code pc = .ok (.lstore_n k, 1)) (hl : storeLocals ls k.val (.long x) = some l') (hp : pc + 1 = pc')
    (K : Goes p e below Post (T.setTop (mkF m pc' l' st))) : Goes p e below Post (T.setTop (mkF m pc ls (.long x :: st))) := by
  subst hp; exact Goes.go (fun _ k => XT.lstoreN h hx rfl hd rfl hl k) K
theorem iincX (h : At T m c below) (hx : p.tables.exec = Jvm.exec) (pc' : Nat) (l' : Array Slot) {k : Nat} {cst : Int} {x : Int32} (hd : decode c.code pc = .ok (.iinc k cst, 3)) (hg : ls[k]? = some (.val (.int x))) (z : Int32) (hz : Int32.ofInt cst = z) (hl : storeLocals ls k (.int (x + z)) = some l') (hp : pc + 3 = pc')
    (K : Goes p e below Post (T.setTop (mkF m pc' l' st))) : Goes p e below Post (T.setTop (mkF m pc ls st)) := by
  subst hp hz; exact Goes.go (fun _ k => XS.iinc h hx rfl hd hg hl k) K
theorem astore (h : At T m c below) (hx : p.tables.exec = Jvm.exec) (pc' : Nat) (l' : Array Slot) {k : Nat} {x : Value} (hd : decode c.code pc = .ok (.astore k, 2)) (hv : x.isRef = true) (hl : storeLocals ls k x = some l') (hp : pc + 2 = pc')
    (K : Goes p e below Post (T.setTop (mkF m pc' l' st))) : Goes p e below Post (T.setTop (mkF m pc ls (x :: st))) := by
  subst hp; exact Goes.go (fun _ k => XS.astore h hx rfl hd rfl hv hl k) K
theorem astoreN (h : At T m c below) (hx : p.tables.exec = Jvm.exec) (pc' : Nat) (l' : Array Slot) {k : Fin 4} {x : Value} (hd : decode c.code pc = .ok (.astore_n k, 1)) (hv : x.isRef = true) (hl : storeLocals ls k.val x = some l') (hp : pc + 1 = pc')
    (K : Goes p e below Post (T.setTop (mkF m pc' l' st))) : Goes p e below Post (T.setTop (mkF m pc ls (x :: st))) := by
  subst hp; exact Goes.go (fun _ k => XS.astoreN h hx rfl hd rfl hv hl k) K
theorem iinc (h : At T m c below) (hx : p.tables.exec = Jvm.exec) (pc' : Nat) (l' : Int32 → Array Slot) {k : Nat} {cst : Int} {x : Int32} (hd : decode c.code pc = .ok (.iinc k cst, 3)) (hg : ls[k]? = some (.val (.int x))) (z : Int32) (hz : Int32.ofInt cst = z) (hl : ∀ v, storeLocals ls k (.int v) = some (l' v)) (hp : pc + 3 = pc')
    (K : ∀ v, v = x + z → Goes p e below Post (T.setTop (mkF m pc' (l' v) st))) : Goes p e below Post (T.setTop (mkF m pc ls st)) := by
  subst hp hz; exact Goes.go (fun _ k => XS.iinc h hx rfl hd hg (hl _) k) (K _ rfl)
theorem goto (h : At T m c below) (hx : p.tables.exec = Jvm.exec) (pc' : Nat) {o : Int} (hd : decode c.code pc = .ok (.goto o, 3)) (ho : 0 ≤ (pc : Int) + o) (hp : ((pc : Int) + o).toNat = pc')
    (K : Goes p e below Post (T.setTop (mkF m pc' ls st))) : Goes p e below Post (T.setTop (mkF m pc ls st)) := Goes.go (fun _ k => XS.goto h hx rfl (pc0 := pc) rfl hd ho hp k) K
theorem ifY (h : At T m c below) (hx : p.tables.exec = Jvm.exec) (pc' : Nat) {cd : ClassFile.Cond} {x : Int32} {o : Int} (hd : decode c.code pc = .ok (.ifCond cd o, 3)) (hc : ifCond.holds cd x = true) (ho : 0 ≤ (pc : Int) + o) (hp : ((pc : Int) + o).toNat = pc')
    (K : Goes p e below Post (T.setTop (mkF m pc' ls st))) : Goes p e below Post (T.setTop (mkF m pc ls (.int x :: st))) := Goes.go (fun _ k => XS.ifYes h hx rfl (pc0 := pc) rfl hd rfl hc ho hp k) K
theorem ifN (h : At T m c below) (hx : p.tables.exec = Jvm.exec) (pc' : Nat) {cd : ClassFile.Cond} {x : Int32} {o : Int} (hd : decode c.code pc = .ok (.ifCond cd o, 3)) (hc : ifCond.holds cd x = false) (hp : pc + 3 = pc')
    (K : Goes p e below Post (T.setTop (mkF m pc' ls st))) : Goes p e below Post (T.setTop (mkF m pc ls (.int x :: st))) := by
  subst hp; exact Goes.go (fun _ k => XS.ifNo h hx rfl hd rfl hc k) K
theorem icmpY (h : At T m c below) (hx : p.tables.exec = Jvm.exec) (pc' : Nat) {cd : ClassFile.Cond} {x y : Int32} {o : Int} (hd : decode c.code pc = .ok (.if_icmp cd o, 3)) (hc : if_icmp.holds cd x y = true) (ho : 0 ≤ (pc : Int) + o) (hp : ((pc : Int) + o).toNat = pc')
    (K : Goes p e below Post (T.setTop (mkF m pc' ls st))) : Goes p e below Post (T.setTop (mkF m pc ls (.int y :: .int x :: st))) := Goes.go (fun _ k => XS.icmpYes h hx rfl (pc0 := pc) rfl hd rfl hc ho hp k) K
theorem icmpN (h : At T m c below) (hx : p.tables.exec = Jvm.exec) (pc' : Nat) {cd : ClassFile.Cond} {x y : Int32} {o : Int} (hd : decode c.code pc = .ok (.if_icmp cd o, 3)) (hc : if_icmp.holds cd x y = false) (hp : pc + 3 = pc')
    (K : Goes p e below Post (T.setTop (mkF m pc' ls st))) : Goes p e below Post (T.setTop (mkF m pc ls (.int y :: .int x :: st))) := by
  subst hp; exact Goes.go (fun _ k => XS.icmpNo h hx rfl hd rfl hc k) K
theorem ifnullY (h : At T m c below) (hx : p.tables.exec = Jvm.exec) (pc' : Nat) {o : Int} (hd : decode c.code pc = .ok (.ifnull o, 3)) (ho : 0 ≤ (pc : Int) + o) (hp : ((pc : Int) + o).toNat = pc')
    (K : Goes p e below Post (T.setTop (mkF m pc' ls st))) : Goes p e below Post (T.setTop (mkF m pc ls (.null :: st))) := Goes.go (fun _ k => XS.ifnullYes h hx rfl (pc0 := pc) rfl hd rfl ho hp k) K
theorem ifnullN (h : At T m c below) (hx : p.tables.exec = Jvm.exec) (pc' : Nat) {b : Addr} {o : Int} (hd : decode c.code pc = .ok (.ifnull o, 3)) (hp : pc + 3 = pc')
    (K : Goes p e below Post (T.setTop (mkF m pc' ls st))) : Goes p e below Post (T.setTop (mkF m pc ls (.ref b :: st))) := by
  subst hp; exact Goes.go (fun _ k => XS.ifnullNo h hx rfl hd rfl k) K
theorem ifnonnullY (h : At T m c below) (hx : p.tables.exec = Jvm.exec) (pc' : Nat) {b : Addr} {o : Int} (hd : decode c.code pc = .ok (.ifnonnull o, 3)) (ho : 0 ≤ (pc : Int) + o) (hp : ((pc : Int) + o).toNat = pc')
    (K : Goes p e below Post (T.setTop (mkF m pc' ls st))) : Goes p e below Post (T.setTop (mkF m pc ls (.ref b :: st))) := Goes.go (fun _ k => XT.ifnonnullYes h hx rfl (pc0 := pc) rfl hd rfl ho hp k) K
theorem ifnonnullN (h : At T m c below) (hx : p.tables.exec = Jvm.exec) (pc' : Nat) {o : Int} (hd : decode c.code pc = .ok (.ifnonnull o, 3)) (hp : pc + 3 = pc')
    (K : Goes p e below Post (T.setTop (mkF m pc' ls st))) : Goes p e below Post (T.setTop (mkF m pc ls (.null :: st))) := by
  subst hp; exact Goes.go (fun _ k => XT.ifnonnullNo h hx rfl hd rfl k) K
theorem acmpY (h : At T m c below) (hx : p.tables.exec = Jvm.exec) (pc' : Nat) {cd : ClassFile.ACond} {x y : Value} {o : Int} (hd : decode c.code pc = .ok (.if_acmp cd o, 3)) (h1 : x.isRef = true) (h2 : y.isRef = true) (hc : XT.acmp cd x y = true) (ho : 0 ≤ (pc : Int) + o) (hp : ((pc : Int) + o).toNat = pc')
    (K : Goes p e below Post (T.setTop (mkF m pc' ls st))) : Goes p e below Post (T.setTop (mkF m pc ls (y :: x :: st))) := Goes.go (fun _ k => XT.acmpYes h hx rfl (pc0 := pc) rfl hd rfl h1 h2 hc ho hp k) K
theorem acmpN (h : At T m c below) (hx : p.tables.exec = Jvm.exec) (pc' : Nat) {cd : ClassFile.ACond} {x y : Value} {o : Int} (hd : decode c.code pc = .ok (.if_acmp cd o, 3)) (h1 : x.isRef = true) (h2 : y.isRef = true) (hc : XT.acmp cd x y = false) (hp : pc + 3 = pc')
    (K : Goes p e below Post (T.setTop (mkF m pc' ls st))) : Goes p e below Post (T.setTop (mkF m pc ls (y :: x :: st))) := by
  subst hp; exact Goes.go (fun _ k => XT.acmpNo h hx rfl hd rfl h1 h2 hc k) K
theorem ifnullV (h : At T m c below) (hx : p.tables.exec = Jvm.exec) (pc' pn : Nat) {v : Value} (hv : v.isRef = true) {o : Int} (hd : decode c.code pc = .ok (.ifnull o, 3)) (ho : 0 ≤ (pc : Int) + o) (hp : ((pc : Int) + o).toNat = pc') (hq : pc + 3 = pn)
    (KY : v = .null → Goes p e below Post (T.setTop (mkF m pc' ls st))) (KN : ¬ v = .null → Goes p e below Post (T.setTop (mkF m pn ls st))) : Goes p e below Post (T.setTop (mkF m pc ls (v :: st))) := by
  subst hq
  rcases ref_cases hv with hv0 | ⟨b, hv0⟩
  · subst hv0; exact Goes.go (fun _ k => XS.ifnullYes h hx rfl (pc0 := pc) rfl hd rfl ho hp k) (KY rfl)
  · subst hv0; exact Goes.go (fun _ k => XS.ifnullNo h hx rfl hd rfl k) (KN (fun q => nomatch q))
theorem ifnonnullV (h : At T m c below) (hx : p.tables.exec = Jvm.exec) (pc' pn : Nat) {v : Value} (hv : v.isRef = true) {o : Int} (hd : decode c.code pc = .ok (.ifnonnull o, 3)) (ho : 0 ≤ (pc : Int) + o) (hp : ((pc : Int) + o).toNat = pc') (hq : pc + 3 = pn)
    (KY : ¬ v = .null → Goes p e below Post (T.setTop (mkF m pc' ls st))) (KN : v = .null → Goes p e below Post (T.setTop (mkF m pn ls st))) : Goes p e below Post (T.setTop (mkF m pc ls (v :: st))) := by
  subst hq
  rcases ref_cases hv with hv0 | ⟨b, hv0⟩
  · subst hv0; exact Goes.go (fun _ k => XT.ifnonnullNo h hx rfl hd rfl k) (KN rfl)
  · subst hv0; exact Goes.go (fun _ k => XT.ifnonnullYes h hx rfl (pc0 := pc) rfl hd rfl ho hp k) (KY (fun q => nomatch q))
end G
end Goes
end Jvm.OwnKit
namespace Jvm.OwnKit
open Sem ClassFile Op Lib Jvm.Stand Jvm.Free Jvm.LawKit Jvm.RoadKit
theorem ext_refl (h : Heap) : Ext h h := ⟨Nat.le_refl _, fun _ _ q => q⟩
theorem ext_trans {h h' h'' : Heap} (A : Ext h h') (B : Ext h' h'') : Ext h h'' := ⟨Nat.le_trans A.1 B.1, fun x c q => B.2 x c (A.2 x c q)⟩
theorem ext_keep {h h' : Heap} (E : Ext h h') (ws : List Addr) : Keep h h' ws := (Keep.refl h ws).ext E
theorem keep_ext {h h' : Heap} {ws : List Addr} (K : Keep h h' ws) (q : ∀ x ∈ ws, h.size ≤ x) : Ext h h' :=
  ⟨K.1, fun x c hx => K.2.1 x c hx fun z => absurd (Array.getElem?_eq_some_iff.mp hx).1 (Nat.not_lt.mpr (q x z))⟩
theorem keep_nil {h h' : Heap} (K : Keep h h' []) : Ext h h' := keep_ext K fun _ q => nomatch q
theorem keep_one {h h' : Heap} {a : Addr} (K : Keep h h' [a]) (q : h.size ≤ a) : Ext h h' := keep_ext K fun x hx => by cases List.mem_singleton.mp hx; exact q
/-- where the walk of a body stands: its start's heap h0, what it may write of it (ws), the tables' base vm0, the state, the heap -/
def Wk (p : Program) (l : Launch) (e : Env) (R : Room) (s : State) (m : MethodId) (args : Array Value) (below : List Frame) (meth : Method) (c : Code) (Z : State) (EL : List (String × Nat)) (h0 : Heap) (ws : List Addr) (vm0 : Vm) (T : State) (h : Heap) (cells slots : Nat) : Prop :=
  ∃ locs, Stand p l e R (s.setVm vm0) m args below meth c T locs cells slots ∧ Fr Z.heap.size locs ∧ T.heap = h ∧ Keep h0 h ws ∧ s.heap = h0 ∧ Ext Z.heap h0 ∧ (∀ x ∈ ws, Z.heap.size ≤ x) ∧ Z.Warmed39 vm0 ∧ (∃ k0, s.Since vm0 k0 ∧ k0 ≤ h.size) ∧ CHr Z EL s.vm h0 vm0 h
section Wk
variable {p : Program} {l : Launch} {e : Env} {R : Room} {s : State} {m : MethodId} {args : Array Value} {below : List Frame} {meth : Method} {c : Code} {Z : State} {EL : List (String × Nat)} {h0 : Heap} {ws : List Addr} {vm0 : Vm} {T : State} {h : Heap} {cells slots : Nat} {a0 : Array Value} {Post : Outcome → State → Prop} {pc : Nat} {ls : Array Slot} {st rest : List Value} {own : String}
theorem Wk.here (W : Wk p l e R s m args below meth c Z EL h0 ws vm0 T h cells slots) : At T m c below := by obtain ⟨_, X, _⟩ := W; exact X.here
theorem Wk.warm (W : Wk p l e R s m args below meth c Z EL h0 ws vm0 T h cells slots) : Z.Warmed39 vm0 := by obtain ⟨_, _, _, _, _, _, _, _, q, _⟩ := W; exact q
theorem Wk.alike (W : Wk p l e R s m args below meth c Z EL h0 ws vm0 T h cells slots) : Z.vm.Alike vm0 := W.warm.alike
theorem Wk.chr (W : Wk p l e R s m args below meth c Z EL h0 ws vm0 T h cells slots) : CHr Z EL s.vm h0 vm0 h := by obtain ⟨_, _, _, _, _, _, _, _, _, _, q⟩ := W; exact q
theorem Wk.ch (W : Wk p l e R s m args below meth c Z EL h0 ws vm0 T h cells slots) : CHv Z EL vm0 h := W.chr.1
theorem Wk.keeps (W : Wk p l e R s m args below meth c Z EL h0 ws vm0 T h cells slots) : Keep h0 h ws := by obtain ⟨_, _, _, _, q, _⟩ := W; exact q
theorem Wk.size (W : Wk p l e R s m args below meth c Z EL h0 ws vm0 T h cells slots) : h0.size ≤ h.size := W.keeps.1
theorem Wk.zsize (W : Wk p l e R s m args below meth c Z EL h0 ws vm0 T h cells slots) : Z.heap.size ≤ h0.size := by obtain ⟨_, _, _, _, _, _, q, _⟩ := W; exact q.1
theorem Wk.mono (W : Wk p l e R s m args below meth c Z EL h0 ws vm0 T h cells slots) {cells' slots' : Nat} (hc : cells ≤ cells') (hn : slots ≤ slots') : Wk p l e R s m args below meth c Z EL h0 ws vm0 T h cells' slots' := by
  obtain ⟨locs, X, r⟩ := W; exact ⟨locs, X.mono hc hn, r⟩
theorem Wk.old (W : Wk p l e R s m args below meth c Z EL h0 ws vm0 T h cells slots) : Ext Z.heap h := by
  obtain ⟨_, _, _, _, K, _, E, hws, _⟩ := W
  exact ⟨Nat.le_trans E.1 K.1, fun x cl q => K.2.1 x cl (E.2 x cl q) fun z => absurd (Array.getElem?_eq_some_iff.mp q).1 (Nat.not_lt.mpr (hws x z))⟩
theorem Wk.wown (W : Wk p l e R s m args below meth c Z EL h0 ws vm0 T h cells slots) (ho : Z.vm.findClass own = some m.cls) : (s.setVm vm0).vm.findClass own = some m.cls := by
  show vm0.findClass own = some m.cls
  rw [W.alike.findClass]; exact ho
theorem Wk.may (W : Wk p l e R s m args below meth c Z EL h0 ws vm0 T h cells slots) {a : Addr} (q : a ∈ ws ∨ h0.size ≤ a) : Z.heap.size ≤ a := by
  obtain ⟨_, _, _, _, _, _, E, hws, _⟩ := W
  exact q.elim (hws a) fun r => Nat.le_trans E.1 r
theorem Wk.grown (W : Wk p l e R s m args below meth c Z EL h0 ws vm0 T h cells slots) {T' : State} {h' : Heap} {k n : Nat} (X' : ∀ locs, Stand p l e R (s.setVm vm0) m args below meth c T locs cells slots → Stand p l e R (s.setVm vm0) m args below meth c T' locs k n) (e' : T'.heap = h') (E : Ext h h') : Wk p l e R s m args below meth c Z EL h0 ws vm0 T' h' k n := by
  obtain ⟨locs, X, N, eh, K, es, O, hws, hZ, ⟨k0, hS, hk⟩, C⟩ := W
  exact ⟨locs, X' locs X, N, e', K.ext E, es, O, hws, hZ, ⟨k0, hS, Nat.le_trans hk E.1⟩, C.trans (CHr.ext E C.1)⟩
theorem Wk.newO (W : Wk p l e R s m args below meth c Z EL h0 ws vm0 T h cells slots) (hx : p.tables.exec = Jvm.exec) (ho : Z.vm.findClass own = some m.cls) {C : String} {index n : Nat} (w : (Cond.classLink own index C).before a0 Z = true) (wi : (Cond.instantiable C n).before a0 Z = true) (wz : (Cond.initialized C).before a0 Z = true)
    (pc' : Nat) (hd : decode c.code pc = .ok (.new index, 3)) (hp : pc + 3 = pc') (hc : cells + 1 ≤ R.cells) (hl : slots + n ≤ R.slots)
    (K : ∀ (T' : State) (h' : Heap) (a : Addr), Wk p l e R s m args below meth c Z EL h0 ws vm0 T' h' (cells + 1) (slots + n) → Ext h h' → a = h.size → Exa Z h' a C → (∀ {O nm d : String} {ty : FieldType}, Laid Z a0 C O nm d → parseFieldDescriptor d = some ty → Fld Z h' a O nm d (defaultValue ty)) → Safe Z EL vm0 h' a → Goes p e below Post (T'.setTop (mkF m pc' ls (.ref a :: st)))) : Goes p e below Post (T.setTop (mkF m pc ls st)) := by
  subst hp
  have ho' := W.wown ho
  have W0 := W
  obtain ⟨locs, X, N, eh, K0, es, O, hws, hZ, ⟨k0, hS, hk⟩, C⟩ := W
  obtain ⟨T', h', X', e', E, A, D, -, stp⟩ := RoadKit.newO X hx hZ ho' w wi wz eh (g := mkF m pc ls st) rfl hd hc hl
  exact Goes.go stp (K T' h' _ ⟨locs, X', N, e', K0.ext E, es, O, hws, hZ, ⟨k0, hS, Nat.le_trans hk E.1⟩, C.trans (CHr.ext E C.1)⟩ E rfl A D fun B => Safe.new (Nat.le_refl _) ((C.1.step fun _ _ _ q => E.2 _ _ q).2 _ B))
theorem Wk.newP (W : Wk p l e R s m args below meth c Z EL h0 ws vm0 T h cells slots) (hx : p.tables.exec = Jvm.exec) {aty : ArrayType} (w : (Cond.arrayClass (newarray.typeOf aty)).before a0 Z = true)
    (pc' : Nat) (hd : decode c.code pc = .ok (.newarray aty, 2)) {n : Int32} (hn : ¬ n < 0) (cap : Nat) (hcap : n.toNatClampNeg ≤ cap) (hp : pc + 2 = pc') (hb : cap * 8 ≤ 536870912) (hc : cells + 1 ≤ R.cells) (hl : slots + cap ≤ R.slots)
    (K : ∀ (T' : State) (h' : Heap) (a : Addr) (k : ClassId), Wk p l e R s m args below meth c Z EL h0 ws vm0 T' h' (cells + 1) (slots + cap) → Ext h h' → a = h.size → Arv Z h' a k (newarray.typeOf aty) n (List.replicate cap (defaultValue (newarray.typeOf aty))) (defaultValue (newarray.typeOf aty)) → Safe Z EL vm0 h' a → Goes p e below Post (T'.setTop (mkF m pc' ls (.ref a :: st)))) : Goes p e below Post (T.setTop (mkF m pc ls (.int n :: st))) := by
  subst hp
  obtain ⟨locs, X, N, eh, K0, es, O, hws, hZ, ⟨k0, hS, hk⟩, C⟩ := W
  obtain ⟨T', h', cA, X', e', E, A, stp⟩ := RoadKit.newP X hx hZ w eh (g := mkF m pc ls (.int n :: st)) rfl hd rfl hn hcap hb hc hl
  exact Goes.go stp (K T' h' _ cA ⟨locs, X', N, e', K0.ext E, es, O, hws, hZ, ⟨k0, hS, Nat.le_trans hk E.1⟩, C.trans (CHr.ext E C.1)⟩ E rfl ((Arv.new A hn).pad (pad_rep [] _ cap)) fun B => Safe.new (Nat.le_refl _) ((C.1.step fun _ _ _ q => E.2 _ _ q).2 _ B))
theorem Wk.castore (W : Wk p l e R s m args below meth c Z EL h0 ws vm0 T h cells slots) (hx : p.tables.exec = Jvm.exec) {a : Addr} {k : ClassId} {n : Int32} {vs : List Value} {d : Value} (V : Arv Z h a k .char n vs d) (ha : a ∈ ws ∨ h0.size ≤ a) {j : Int32} {x : Int32} (x' : Int32) (hn : nar .char x = x') (i : Nat) (hj : j.toNatClampNeg = i) (hin : ¬ j < 0 ∧ j < n) (hi : i < vs.length)
    (pc' : Nat) (hd : decode c.code pc = .ok (.castore, 1)) (hp : pc + 1 = pc')
    (K : ∀ (T' : State) (h' : Heap), Wk p l e R s m args below meth c Z EL h0 ws vm0 T' h' cells slots → Keep h h' [a] → CHr Z EL vm0 h vm0 h' → Arv Z h' a k .char n (vs.set i (.int x')) d → Goes p e below Post (T'.setTop (mkF m pc' ls st))) : Goes p e below Post (T.setTop (mkF m pc ls (.int x :: .int j :: .ref a :: st))) := by
  subst hp
  have hza := W.may ha
  obtain ⟨locs, X, N, eh, K0, es, O, hws, hZ, ⟨k0, hS, hk⟩, C⟩ := W
  obtain ⟨cl, A, q1, S, q3, H, G⟩ := V
  obtain ⟨T', h', X', e', Wr', stp⟩ := RoadKit.stC X hx hZ eh A (j := j) (inb_of S hin) (g := mkF m pc ls (.int x :: .int j :: .ref a :: st)) rfl rfl hd
  rw [show nar .char x = x' from hn] at Wr'
  have C1 := CHr.wr Wr' (Safe.arr hZ.alike A (by intro q; cases q)) C.1
  exact Goes.go stp (K T' h' ⟨_, X', Fr.snoc X' N hza, e', K0.wr Wr' ha, es, O, hws, hZ, ⟨k0, hS, Nat.le_trans hk (Keep.of_wr Wr').1⟩, C.trans C1⟩ (Keep.of_wr Wr') C1 (Arv.set A q1 S q3 H G (by rw [← hn]; exact fits_nar_char _) Wr' i hj hi))
theorem Wk.iastore (W : Wk p l e R s m args below meth c Z EL h0 ws vm0 T h cells slots) (hx : p.tables.exec = Jvm.exec) {a : Addr} {k : ClassId} {n : Int32} {vs : List Value} {d : Value} (V : Arv Z h a k .int n vs d) (ha : a ∈ ws ∨ h0.size ≤ a) {j : Int32} {x : Int32} (x' : Int32) (hn : x = x') (i : Nat) (hj : j.toNatClampNeg = i) (hin : ¬ j < 0 ∧ j < n) (hi : i < vs.length)
    (pc' : Nat) (hd : decode c.code pc = .ok (.iastore, 1)) (hp : pc + 1 = pc')
    (K : ∀ (T' : State) (h' : Heap), Wk p l e R s m args below meth c Z EL h0 ws vm0 T' h' cells slots → Keep h h' [a] → CHr Z EL vm0 h vm0 h' → Arv Z h' a k .int n (vs.set i (.int x')) d → Goes p e below Post (T'.setTop (mkF m pc' ls st))) : Goes p e below Post (T.setTop (mkF m pc ls (.int x :: .int j :: .ref a :: st))) := by
  subst hp
  have hza := W.may ha
  obtain ⟨locs, X, N, eh, K0, es, O, hws, hZ, ⟨k0, hS, hk⟩, C⟩ := W
  obtain ⟨cl, A, q1, S, q3, H, G⟩ := V
  obtain ⟨T', h', X', e', Wr', stp⟩ := RoadKit.stI X hx hZ eh A (j := j) (inb_of S hin) (g := mkF m pc ls (.int x :: .int j :: .ref a :: st)) rfl rfl hd
  rw [show x = x' from hn] at Wr'
  have C1 := CHr.wr Wr' (Safe.arr hZ.alike A (by intro q; cases q)) C.1
  exact Goes.go stp (K T' h' ⟨_, X', Fr.snoc X' N hza, e', K0.wr Wr' ha, es, O, hws, hZ, ⟨k0, hS, Nat.le_trans hk (Keep.of_wr Wr').1⟩, C.trans C1⟩ (Keep.of_wr Wr') C1 (Arv.set A q1 S q3 H G (rfl) Wr' i hj hi))
theorem Wk.lastore (W : Wk p l e R s m args below meth c Z EL h0 ws vm0 T h cells slots) (hx : p.tables.exec = Jvm.exec) {a : Addr} {k : ClassId} {n : Int32} {vs : List Value} {d : Value} (V : Arv Z h a k .long n vs d) (ha : a ∈ ws ∨ h0.size ≤ a) {j : Int32} {x : Int64} (x' : Int64) (hn : x = x') (i : Nat) (hj : j.toNatClampNeg = i) (hin : ¬ j < 0 ∧ j < n) (hi : i < vs.length)
    (pc' : Nat) (hd : decode c.code pc = .ok (.lastore, 1)) (hp : pc + 1 = pc')
    (K : ∀ (T' : State) (h' : Heap), Wk p l e R s m args below meth c Z EL h0 ws vm0 T' h' cells slots → Keep h h' [a] → CHr Z EL vm0 h vm0 h' → Arv Z h' a k .long n (vs.set i (.long x')) d → Goes p e below Post (T'.setTop (mkF m pc' ls st))) : Goes p e below Post (T.setTop (mkF m pc ls (.long x :: .int j :: .ref a :: st))) := by
  subst hp
  have hza := W.may ha
  obtain ⟨locs, X, N, eh, K0, es, O, hws, hZ, ⟨k0, hS, hk⟩, C⟩ := W
  obtain ⟨cl, A, q1, S, q3, H, G⟩ := V
  obtain ⟨T', h', X', e', Wr', stp⟩ := RoadKit.stJ X hx hZ eh A (j := j) (inb_of S hin) (g := mkF m pc ls (.long x :: .int j :: .ref a :: st)) rfl rfl hd
  rw [show x = x' from hn] at Wr'
  have C1 := CHr.wr Wr' (Safe.arr hZ.alike A (by intro q; cases q)) C.1
  exact Goes.go stp (K T' h' ⟨_, X', Fr.snoc X' N hza, e', K0.wr Wr' ha, es, O, hws, hZ, ⟨k0, hS, Nat.le_trans hk (Keep.of_wr Wr').1⟩, C.trans C1⟩ (Keep.of_wr Wr') C1 (Arv.set A q1 S q3 H G (rfl) Wr' i hj hi))
theorem Wk.bastore (W : Wk p l e R s m args below meth c Z EL h0 ws vm0 T h cells slots) (hx : p.tables.exec = Jvm.exec) {a : Addr} {k : ClassId} {n : Int32} {vs : List Value} {d : Value} (V : Arv Z h a k .byte n vs d) (ha : a ∈ ws ∨ h0.size ≤ a) (sf : Safe Z EL vm0 h a) {j : Int32} {x : Int32} (x' : Int32) (hn : nar .byte x = x') (i : Nat) (hj : j.toNatClampNeg = i) (hin : ¬ j < 0 ∧ j < n) (hi : i < vs.length)
    (pc' : Nat) (hd : decode c.code pc = .ok (.bastore, 1)) (hp : pc + 1 = pc')
    (K : ∀ (T' : State) (h' : Heap), Wk p l e R s m args below meth c Z EL h0 ws vm0 T' h' cells slots → Keep h h' [a] → CHr Z EL vm0 h vm0 h' → Arv Z h' a k .byte n (vs.set i (.int x')) d → Goes p e below Post (T'.setTop (mkF m pc' ls st))) : Goes p e below Post (T.setTop (mkF m pc ls (.int x :: .int j :: .ref a :: st))) := by
  subst hp
  have hza := W.may ha
  obtain ⟨locs, X, N, eh, K0, es, O, hws, hZ, ⟨k0, hS, hk⟩, C⟩ := W
  obtain ⟨cl, A, q1, S, q3, H, G⟩ := V
  obtain ⟨T', h', X', e', Wr', stp⟩ := RoadKit.stB X hx hZ eh A (j := j) (inb_of S hin) (g := mkF m pc ls (.int x :: .int j :: .ref a :: st)) rfl rfl hd
  rw [show nar .byte x = x' from hn] at Wr'
  have C1 := CHr.wr Wr' sf C.1
  exact Goes.go stp (K T' h' ⟨_, X', Fr.snoc X' N hza, e', K0.wr Wr' ha, es, O, hws, hZ, ⟨k0, hS, Nat.le_trans hk (Keep.of_wr Wr').1⟩, C.trans C1⟩ (Keep.of_wr Wr') C1 (Arv.set A q1 S q3 H G (by rw [← hn]; exact fits_nar_byte _) Wr' i hj hi))
theorem Wk.caload (W : Wk p l e R s m args below meth c Z EL h0 ws vm0 T h cells slots) (hx : p.tables.exec = Jvm.exec) {a : Addr} {k : ClassId} {n : Int32} {vs : List Value} {d : Value} (V : Arv Z h a k .char n vs d) {j : Int32} (hin : ¬ j < 0 ∧ j < n) (v : Value) (hv : vs.getD j.toNatClampNeg d = v)
    (pc' : Nat) (hd : decode c.code pc = .ok (.caload, 1)) (hp : pc + 1 = pc') (K : Goes p e below Post (T.setTop (mkF m pc' ls (v :: st)))) : Goes p e below Post (T.setTop (mkF m pc ls (.int j :: .ref a :: st))) := by
  subst hp
  obtain ⟨locs, X, N, eh, K0, es, O, hws, hZ, -, C⟩ := W
  obtain ⟨cl, A, q1, S, q3, H, G⟩ := V
  exact Goes.go (fun tg k => X.caload hx (j := j) (v := v) (by rw [eh]; exact A.1) (State.isArrayOf_alike hZ.alike A.2.1) A.2.2 (inb_of S hin) (H.at (inb_of S hin) hv) (g := mkF m pc ls (.int j :: .ref a :: st)) rfl rfl hd tg k) K
theorem Wk.iaload (W : Wk p l e R s m args below meth c Z EL h0 ws vm0 T h cells slots) (hx : p.tables.exec = Jvm.exec) {a : Addr} {k : ClassId} {n : Int32} {vs : List Value} {d : Value} (V : Arv Z h a k .int n vs d) {j : Int32} (hin : ¬ j < 0 ∧ j < n) (v : Value) (hv : vs.getD j.toNatClampNeg d = v)
    (pc' : Nat) (hd : decode c.code pc = .ok (.iaload, 1)) (hp : pc + 1 = pc') (K : Goes p e below Post (T.setTop (mkF m pc' ls (v :: st)))) : Goes p e below Post (T.setTop (mkF m pc ls (.int j :: .ref a :: st))) := by
  subst hp
  obtain ⟨locs, X, N, eh, K0, es, O, hws, hZ, -, C⟩ := W
  obtain ⟨cl, A, q1, S, q3, H, G⟩ := V
  exact Goes.go (fun tg k => X.iaload hx (j := j) (v := v) (by rw [eh]; exact A.1) (State.isArrayOf_alike hZ.alike A.2.1) A.2.2 (inb_of S hin) (H.at (inb_of S hin) hv) (g := mkF m pc ls (.int j :: .ref a :: st)) rfl rfl hd tg k) K
theorem Wk.laload (W : Wk p l e R s m args below meth c Z EL h0 ws vm0 T h cells slots) (hx : p.tables.exec = Jvm.exec) {a : Addr} {k : ClassId} {n : Int32} {vs : List Value} {d : Value} (V : Arv Z h a k .long n vs d) {j : Int32} (hin : ¬ j < 0 ∧ j < n) (v : Value) (hv : vs.getD j.toNatClampNeg d = v)
    (pc' : Nat) (hd : decode c.code pc = .ok (.laload, 1)) (hp : pc + 1 = pc') (K : Goes p e below Post (T.setTop (mkF m pc' ls (v :: st)))) : Goes p e below Post (T.setTop (mkF m pc ls (.int j :: .ref a :: st))) := by
  subst hp
  obtain ⟨locs, X, N, eh, K0, es, O, hws, hZ, -, C⟩ := W
  obtain ⟨cl, A, q1, S, q3, H, G⟩ := V
  exact Goes.go (fun tg k => X.laload hx (j := j) (v := v) (by rw [eh]; exact A.1) (State.isArrayOf_alike hZ.alike A.2.1) A.2.2 (inb_of S hin) (H.at (inb_of S hin) hv) (g := mkF m pc ls (.int j :: .ref a :: st)) rfl rfl hd tg k) K
theorem Wk.baload (W : Wk p l e R s m args below meth c Z EL h0 ws vm0 T h cells slots) (hx : p.tables.exec = Jvm.exec) {a : Addr} {k : ClassId} {n : Int32} {vs : List Value} {d : Value} (V : Arv Z h a k .byte n vs d) {j : Int32} (hin : ¬ j < 0 ∧ j < n) (v : Value) (hv : vs.getD j.toNatClampNeg d = v)
    (pc' : Nat) (hd : decode c.code pc = .ok (.baload, 1)) (hp : pc + 1 = pc') (K : Goes p e below Post (T.setTop (mkF m pc' ls (v :: st)))) : Goes p e below Post (T.setTop (mkF m pc ls (.int j :: .ref a :: st))) := by
  subst hp
  obtain ⟨locs, X, N, eh, K0, es, O, hws, hZ, -, C⟩ := W
  obtain ⟨cl, A, q1, S, q3, H, G⟩ := V
  exact Goes.go (fun tg k => X.baloadBytes hx (j := j) (v := v) (by rw [eh]; exact A.1) (State.isArrayOf_alike hZ.alike A.2.1) A.2.2 (inb_of S hin) (H.at (inb_of S hin) hv) (g := mkF m pc ls (.int j :: .ref a :: st)) rfl rfl hd tg k) K
theorem Wk.arraylength (W : Wk p l e R s m args below meth c Z EL h0 ws vm0 T h cells slots) (hx : p.tables.exec = Jvm.exec) {a : Addr} {k : ClassId} {ty : FieldType} {n : Int32} {vs : List Value} {d : Value} (V : Arv Z h a k ty n vs d)
    (pc' : Nat) (hd : decode c.code pc = .ok (.arraylength, 1)) (hp : pc + 1 = pc') (K : Goes p e below Post (T.setTop (mkF m pc' ls (.int n :: st)))) : Goes p e below Post (T.setTop (mkF m pc ls (.ref a :: st))) := by
  subst hp
  obtain ⟨locs, X, N, eh, K0, es, O, hws, hZ, -, C⟩ := W
  obtain ⟨cl, A, q1, S, q3, H, G⟩ := V
  refine Goes.go (fun tg k => X.arraylength hx (by rw [eh]; exact A.1) (State.isArrayOf_alike hZ.alike A.2.1) (g := mkF m pc ls (.ref a :: st)) rfl rfl hd tg ?_) K
  rw [len_of S q3]; exact k
theorem Wk.getF (W : Wk p l e R s m args below meth c Z EL h0 ws vm0 T h cells slots) (hx : p.tables.exec = Jvm.exec) (ho : Z.vm.findClass own = some m.cls) {R0 O n d host : String} {index : Nat} (w : (Cond.fieldLink own index R0 n d).before a0 Z = true ∨ (Cond.fieldLinkNest own index R0 n d host).before a0 Z = true) (via : Via Z R0 O n d)
    {a : Addr} {v : Value} (F : Fld Z h a O n d v) (pc' : Nat) (hd : decode c.code pc = .ok (.getfield index, 3)) (hp : pc + 3 = pc')
    (K : ∀ (T' : State), Wk p l e R s m args below meth c Z EL h0 ws vm0 T' h cells slots → Goes p e below Post (T'.setTop (mkF m pc' ls (v :: st)))) : Goes p e below Post (T.setTop (mkF m pc ls (.ref a :: st))) := by
  subst hp
  have ho' := W.wown ho
  obtain ⟨locs, X, N, eh, r⟩ := W
  obtain ⟨hK0, hes, hO, hws, hZ, r2⟩ := r
  obtain ⟨T', X', e', stp⟩ := RoadKit.getF X hx hZ ho' w via eh F (g := mkF m pc ls (.ref a :: st)) rfl rfl hd
  exact Goes.go stp (K T' ⟨locs, X', N, e', hK0, hes, hO, hws, hZ, r2⟩)
theorem Wk.getS (W : Wk p l e R s m args below meth c Z EL h0 ws vm0 T h cells slots) (hx : p.tables.exec = Jvm.exec) (ho : Z.vm.findClass own = some m.cls) {R0 O n d : String} {index : Nat} (w : (Cond.fieldLink own index R0 n d).before a0 Z = true) (via : Via Z R0 O n d)
    {v : Value} (F : Sta Z h O n d v) (pc' : Nat) (hd : decode c.code pc = .ok (.getstatic index, 3)) (hp : pc + 3 = pc')
    (K : ∀ (T' : State), Wk p l e R s m args below meth c Z EL h0 ws vm0 T' h cells slots → Goes p e below Post (T'.setTop (mkF m pc' ls (v :: st)))) : Goes p e below Post (T.setTop (mkF m pc ls st)) := by
  subst hp
  have ho' := W.wown ho
  obtain ⟨locs, X, N, eh, r⟩ := W
  obtain ⟨hK0, hes, hO, hws, hZ, r2⟩ := r
  obtain ⟨T', X', e', stp⟩ := RoadKit.getS (host := "") X hx hZ ho' w via eh F (g := mkF m pc ls st) rfl hd
  exact Goes.go stp (K T' ⟨locs, X', N, e', hK0, hes, hO, hws, hZ, r2⟩)
theorem Wk.putF (W : Wk p l e R s m args below meth c Z EL h0 ws vm0 T h cells slots) (hx : p.tables.exec = Jvm.exec) (ho : Z.vm.findClass own = some m.cls) {R0 O n d C : String} {index kk : Nat} {ty : FieldType} (w : (Cond.fieldLink own index R0 n d).before a0 Z = true) (via : Via Z R0 O n d)
    {a : Addr} {v old : Value} (v' : Value) (F : Fld Z h a O n d old) (E : Exa Z h a C) (L : (Cond.lays C O n d).before a0 Z = true ∨ ((Cond.laysFinal C O n d).before a0 Z = true ∧ own = O ∧ meth.name = "<init>")) (wi : (Cond.instantiable C kk).before a0 Z = true)
    (hty : parseFieldDescriptor d = some ty) (hn : narrow ty v = v') (hf : fits ty v' = true) (ha : a ∈ ws ∨ h0.size ≤ a) (sf : Safe Z EL vm0 h a) (pc' : Nat) (hd : decode c.code pc = .ok (.putfield index, 3)) (hp : pc + 3 = pc')
    (K : ∀ (T' : State) (h' : Heap), Wk p l e R s m args below meth c Z EL h0 ws vm0 T' h' cells slots → Wr h h' a (RoadKit.slotOf Z O n d) v' → CHr Z EL vm0 h vm0 h' → Goes p e below Post (T'.setTop (mkF m pc' ls st))) : Goes p e below Post (T.setTop (mkF m pc ls (v :: .ref a :: st))) := by
  subst hp
  have hza := W.may ha
  have ho' := W.wown ho
  obtain ⟨locs, X, N, eh, K0, es, O', hws, hZ, ⟨k0, hS, hk⟩, C'⟩ := W
  obtain ⟨T', h', X', e', Wr', stp⟩ := RoadKit.putFN X hx hZ ho' w via eh F E L wi hty hn hf (g := mkF m pc ls (v :: .ref a :: st)) rfl rfl hd
  have C1 := CHr.wr Wr' sf C'.1
  exact Goes.go stp (K T' h' ⟨_, X', Fr.snoc X' N hza, e', K0.wr Wr' ha, es, O', hws, hZ, ⟨k0, hS, Nat.le_trans hk (Keep.of_wr Wr').1⟩, C'.trans C1⟩ Wr' C1)
theorem Wk.initO (W : Wk p l e R s m args below meth c Z EL h0 ws vm0 T h cells slots) (hx : p.tables.exec = Jvm.exec) (ho : Z.vm.findClass own = some m.cls) {index : Nat} (w1 : (Cond.methodLink own index Lib.objectInit).before a0 Z = true) (w2 : (Cond.instanceMethod Lib.objectInit).before a0 Z = true) (w3 : (Cond.code Lib.objectInit ⟨#[0xb1]⟩ 1 none).before a0 Z = true)
    (hsz : ls.size = c.maxLocals) {a : Addr} (pc' : Nat) (hd : decode c.code pc = .ok (.invokespecial index, 3)) (hp : pc + 3 = pc') (hf : 1 ≤ R.frames) (Wd : Nat) (hW : (st.map fun v => v.category).sum ≤ Wd) (hl : Wd + 12 ≤ R.locals)
    (K : ∀ (T' : State), Wk p l e R s m args below meth c Z EL h0 ws vm0 T' h cells slots → Goes p e below Post (T'.setTop (mkF m pc' ls st))) : Goes p e below Post (T.setTop (mkF m pc ls (.ref a :: st))) := by
  subst hp
  have ho' := W.wown ho
  obtain ⟨locs, X, N, eh, r⟩ := W
  obtain ⟨hK0, hes, hO, hws, hZ, r2⟩ := r
  obtain ⟨T', X', e', stp⟩ := RoadKit.initO X hx hZ ho' w1 w2 w3 eh (g := mkF m pc ls (.ref a :: st)) rfl hsz rfl hd hf (W := Wd) (by show 2 * 0 + _ ≤ _; omega) hl
  exact Goes.go stp (K T' ⟨locs, X', N, e', hK0, hes, hO, hws, hZ, r2⟩)
theorem Wk.ldcI (W : Wk p l e R s m args below meth c Z EL h0 ws vm0 T h cells slots) (hx : p.tables.exec = Jvm.exec) (ho : Z.vm.findClass own = some m.cls) {index : Nat} {v : Int32} (w : (Cond.constant own index v).before a0 Z = true)
    (pc' : Nat) (hd : decode c.code pc = .ok (.ldc index, 2)) (hp : pc + 2 = pc') (K : Goes p e below Post (T.setTop (mkF m pc' ls (.int v :: st)))) : Goes p e below Post (T.setTop (mkF m pc ls st)) := by
  subst hp
  have ho' := W.wown ho
  have hZ := W.warm
  obtain ⟨locs, X, r⟩ := W
  exact Goes.go (X.ldcInt hx ho' (mvT (s := s.setVm vm0) hZ w) (g := mkF m pc ls st) rfl hd) K
theorem Wk.ldc2 (W : Wk p l e R s m args below meth c Z EL h0 ws vm0 T h cells slots) (hx : p.tables.exec = Jvm.exec) (ho : Z.vm.findClass own = some m.cls) {index : Nat} {v : Int64} (w : (Cond.constantLong own index v).before a0 Z = true)
    (pc' : Nat) (hd : decode c.code pc = .ok (.ldc2_w index, 3)) (hp : pc + 3 = pc') (K : Goes p e below Post (T.setTop (mkF m pc' ls (.long v :: st)))) : Goes p e below Post (T.setTop (mkF m pc ls st)) := by
  subst hp
  have ho' := W.wown ho
  have hZ := W.warm
  obtain ⟨locs, X, r⟩ := W
  exact Goes.go (X.ldc2Long hx ho' (mvT (s := s.setVm vm0) hZ w) (g := mkF m pc ls st) rfl hd) K
theorem Wk.castY (W : Wk p l e R s m args below meth c Z EL h0 ws vm0 T h cells slots) (hx : p.tables.exec = Jvm.exec) (ho : Z.vm.findClass own = some m.cls) {C : String} {index : Nat} (w : (Cond.classLink own index C).before a0 Z = true) {a : Addr} (F : Ins Z h a C true)
    (pc' : Nat) (hd : decode c.code pc = .ok (.checkcast index, 3)) (hp : pc + 3 = pc') (K : ∀ (T' : State), Wk p l e R s m args below meth c Z EL h0 ws vm0 T' h cells slots → Goes p e below Post (T'.setTop (mkF m pc' ls (.ref a :: st)))) : Goes p e below Post (T.setTop (mkF m pc ls (.ref a :: st))) := by
  subst hp
  have ho' := W.wown ho
  obtain ⟨locs, X, N, eh, r⟩ := W
  obtain ⟨hK0, hes, hO, hws, hZ, r2⟩ := r
  obtain ⟨T', X', e', stp⟩ := RoadKit.castY X hx hZ ho' w eh F (g := mkF m pc ls (.ref a :: st)) rfl rfl hd
  exact Goes.go stp (K T' ⟨locs, X', N, e', hK0, hes, hO, hws, hZ, r2⟩)
theorem Wk.instY (W : Wk p l e R s m args below meth c Z EL h0 ws vm0 T h cells slots) (hx : p.tables.exec = Jvm.exec) (ho : Z.vm.findClass own = some m.cls) {C : String} {index : Nat} (w : (Cond.classLink own index C).before a0 Z = true) {a : Addr} (F : Ins Z h a C true)
    (pc' : Nat) (hd : decode c.code pc = .ok (.instanceof index, 3)) (hp : pc + 3 = pc') (K : ∀ (T' : State), Wk p l e R s m args below meth c Z EL h0 ws vm0 T' h cells slots → Goes p e below Post (T'.setTop (mkF m pc' ls (.int 1 :: st)))) : Goes p e below Post (T.setTop (mkF m pc ls (.ref a :: st))) := by
  subst hp
  have ho' := W.wown ho
  obtain ⟨locs, X, N, eh, r⟩ := W
  obtain ⟨hK0, hes, hO, hws, hZ, r2⟩ := r
  obtain ⟨T', X', e', stp⟩ := RoadKit.instY X hx hZ ho' w eh F (g := mkF m pc ls (.ref a :: st)) rfl rfl hd
  exact Goes.go stp (K T' ⟨locs, X', N, e', hK0, hes, hO, hws, hZ, r2⟩)
theorem Wk.castNull (W : Wk p l e R s m args below meth c Z EL h0 ws vm0 T h cells slots) (hx : p.tables.exec = Jvm.exec) {index : Nat} (pc' : Nat) (hd : decode c.code pc = .ok (.checkcast index, 3)) (hp : pc + 3 = pc') (K : Goes p e below Post (T.setTop (mkF m pc' ls (.null :: st)))) : Goes p e below Post (T.setTop (mkF m pc ls (.null :: st))) := by
  subst hp
  obtain ⟨locs, X, r⟩ := W
  exact Goes.go (X.checkcastNull hx (g := mkF m pc ls (.null :: st)) rfl rfl hd) K
theorem Wk.instNull (W : Wk p l e R s m args below meth c Z EL h0 ws vm0 T h cells slots) (hx : p.tables.exec = Jvm.exec) {index : Nat} (pc' : Nat) (hd : decode c.code pc = .ok (.instanceof index, 3)) (hp : pc + 3 = pc') (K : Goes p e below Post (T.setTop (mkF m pc' ls (.int 0 :: st)))) : Goes p e below Post (T.setTop (mkF m pc ls (.null :: st))) := by
  subst hp
  obtain ⟨locs, X, r⟩ := W
  exact Goes.go (X.instanceofNull hx (g := mkF m pc ls (.null :: st)) rfl rfl hd) K
theorem Wk.instNo (W : Wk p l e R s m args below meth c Z EL h0 ws vm0 T h cells slots) (hx : p.tables.exec = Jvm.exec) (ho : Z.vm.findClass own = some m.cls) {C D : String} {index : Nat} (w : (Cond.classLink own index D).before a0 Z = true) {a : Addr} (E : Exa Z h a C) (F : ∃ c t, Z.vm.findClass C = some c ∧ Z.vm.findClass D = some t ∧ Z.vm.assignable c t = false)
    (pc' : Nat) (hd : decode c.code pc = .ok (.instanceof index, 3)) (hp : pc + 3 = pc') (K : ∀ (T' : State), Wk p l e R s m args below meth c Z EL h0 ws vm0 T' h cells slots → Goes p e below Post (T'.setTop (mkF m pc' ls (.int 0 :: st)))) : Goes p e below Post (T.setTop (mkF m pc ls (.ref a :: st))) := by
  subst hp
  have ho' := W.wown ho
  obtain ⟨locs, X, N, eh, r⟩ := W
  obtain ⟨hK0, hes, hO, hws, hZ, r2⟩ := r
  obtain ⟨T', X', e', stp⟩ := RoadKit.instNo X hx hZ ho' w eh E F (g := mkF m pc ls (.ref a :: st)) rfl rfl hd
  exact Goes.go stp (K T' ⟨locs, X', N, e', hK0, hes, hO, hws, hZ, r2⟩)
theorem Wk.newR (W : Wk p l e R s m args below meth c Z EL h0 ws vm0 T h cells slots) (hx : p.tables.exec = Jvm.exec) (ho : Z.vm.findClass own = some m.cls) {C : String} {index : Nat} (w1 : (Cond.classLink own index C).before a0 Z = true) (w2 : (Cond.arrayOver (.object C)).before a0 Z = true)
    (pc' : Nat) (hd : decode c.code pc = .ok (.anewarray index, 3)) {n : Int32} (hn : ¬ n < 0) (cap : Nat) (hcap : n.toNatClampNeg ≤ cap) (hp : pc + 3 = pc') (hb : cap * 8 ≤ 536870912) (hc : cells + 1 ≤ R.cells) (hl : slots + cap ≤ R.slots)
    (K : ∀ (T' : State) (h' : Heap) (a : Addr) (k : ClassId), Wk p l e R s m args below meth c Z EL h0 ws vm0 T' h' (cells + 1) (slots + cap) → Ext h h' → a = h.size → Arv Z h' a k (.object C) n (List.replicate cap .null) .null → Ovr Z k C → Safe Z EL vm0 h' a → Goes p e below Post (T'.setTop (mkF m pc' ls (.ref a :: st)))) : Goes p e below Post (T.setTop (mkF m pc ls (.int n :: st))) := by
  subst hp
  have ho' := W.wown ho
  obtain ⟨locs, X, N, eh, K0, es, O, hws, hZ, ⟨k0, hS, hk⟩, C'⟩ := W
  obtain ⟨T', h', cA, X', e', E, A, Ov, stp⟩ := RoadKit.newR X hx hZ ho' w1 w2 eh (g := mkF m pc ls (.int n :: st)) rfl hd rfl hn hcap hb hc hl
  exact Goes.go stp (K T' h' _ cA ⟨locs, X', N, e', K0.ext E, es, O, hws, hZ, ⟨k0, hS, Nat.le_trans hk E.1⟩, C'.trans (CHr.ext E C'.1)⟩ E rfl ((Arv.new A hn).pad (pad_rep [] _ cap)) Ov fun B => Safe.new (Nat.le_refl _) ((C'.1.step fun _ _ _ q => E.2 _ _ q).2 _ B))
theorem Wk.aastore (W : Wk p l e R s m args below meth c Z EL h0 ws vm0 T h cells slots) (hx : p.tables.exec = Jvm.exec) {a : Addr} {k : ClassId} {n : Int32} {vs : List Value} {d : Value} {C : String} (V : Arv Z h a k (.object C) n vs d) (ha : a ∈ ws ∨ h0.size ≤ a) {j : Int32} {x : Value} (hxr : x.isRef = true) (hst : ∀ cl : Cell, Arr Z h a cl (.object C) → cl.cls = k → Sto Z h a x) (i : Nat) (hj : j.toNatClampNeg = i) (hin : ¬ j < 0 ∧ j < n) (hi : i < vs.length)
    (pc' : Nat) (hd : decode c.code pc = .ok (.aastore, 1)) (hp : pc + 1 = pc')
    (K : ∀ (T' : State) (h' : Heap), Wk p l e R s m args below meth c Z EL h0 ws vm0 T' h' cells slots → Keep h h' [a] → CHr Z EL vm0 h vm0 h' → Arv Z h' a k (.object C) n (vs.set i x) d → Goes p e below Post (T'.setTop (mkF m pc' ls st))) : Goes p e below Post (T.setTop (mkF m pc ls (x :: .int j :: .ref a :: st))) := by
  subst hp
  have hza := W.may ha
  obtain ⟨locs, X, N, eh, K0, es, O, hws, hZ, ⟨k0, hS, hk⟩, C'⟩ := W
  obtain ⟨cl, A, q1, S, q3, H, G⟩ := V
  obtain ⟨T', h', X', e', Wr', stp⟩ := RoadKit.stR X hx hZ eh A (j := j) (inb_of S hin) rfl (hst cl A q1) (g := mkF m pc ls (x :: .int j :: .ref a :: st)) rfl rfl hd
  have C1 := CHr.wr Wr' (Safe.arr hZ.alike A (by intro q; cases q)) C'.1
  exact Goes.go stp (K T' h' ⟨_, X', Fr.snoc X' N hza, e', K0.wr Wr' ha, es, O, hws, hZ, ⟨k0, hS, Nat.le_trans hk (Keep.of_wr Wr').1⟩, C'.trans C1⟩ (Keep.of_wr Wr') C1 (Arv.set A q1 S q3 H G (by cases x <;> simp [Value.isRef] at hxr <;> rfl) Wr' i hj hi))
theorem Wk.arraycopy (W : Wk p l e R s m args below meth c Z EL h0 ws vm0 T h cells slots) (hx : p.tables.exec = Jvm.exec) (ho : Z.vm.findClass own = some m.cls) {index : Nat} (w1 : (Cond.methodLink own index Jvm.Stand.acN).before a0 Z = true) (w2 : (Cond.native Jvm.Stand.acN).before a0 Z = true) (w3 : (Cond.static Jvm.Stand.acN).before a0 Z = true) (w4 : (Cond.initialized "java/lang/System").before a0 Z = true)
    {a b : Addr} {k k' : ClassId} {ty : FieldType} {z z' sp dp nn : Int32} {vs vd : List Value} {dv dd : Value} (us : List Value) (V : Arv Z h a k ty z vs dv) (B : Arv Z h b k' ty z' vd dd) (hty : refKind ty = false) (h1 : ¬ sp < 0) (h2 : ¬ dp < 0) (h3 : ¬ nn < 0) (h4 : sp.toNatClampNeg + nn.toNatClampNeg ≤ z.toNatClampNeg) (h5 : dp.toNatClampNeg + nn.toNatClampNeg ≤ z'.toNatClampNeg)
    (hus : us = (List.range nn.toNatClampNeg).map fun i => vs.getD (sp.toNatClampNeg + i) dv) (hl : dp.toNatClampNeg + nn.toNatClampNeg ≤ vd.length) (hb : b ∈ ws ∨ h0.size ≤ b) (sf : Safe Z EL vm0 h b) (hsz : ls.size = c.maxLocals) (pc' : Nat) (hd : decode c.code pc = .ok (.invokestatic index, 3)) (hp : pc + 3 = pc') (hf : 1 ≤ R.frames) (Wd : Nat) (hW : (st.map fun v => v.category).sum ≤ Wd) (hlo : Wd + (nativeFrameWords "java/lang/System" "arraycopy" 5 + 11) ≤ R.locals)
    (K : ∀ (T' : State) (h' : Heap), Wk p l e R s m args below meth c Z EL h0 ws vm0 T' h' cells slots → Keep h h' [b] → CHr Z EL vm0 h vm0 h' → Arv Z h' b k' ty z' (vd.take dp.toNatClampNeg ++ us ++ vd.drop (dp.toNatClampNeg + nn.toNatClampNeg)) dd → Goes p e below Post (T'.setTop (mkF m pc' ls st))) : Goes p e below Post (T.setTop (mkF m pc ls (.int nn :: .int dp :: .ref b :: .int sp :: .ref a :: st))) := by
  subst hp
  have hzb := W.may hb
  have ho' := W.wown ho
  obtain ⟨locs, X, N, eh, K0, es, O, hws, hZ, ⟨k0, hS, hk⟩, C⟩ := W
  obtain ⟨T', h', L, X', e', N', K', B', stp⟩ := cpA X hx hZ ho' w1 w2 w3 w4 eh V B (Or.inl ⟨rfl, hty⟩) h1 h2 h3 h4 h5 hus hl N hzb (g := mkF m pc ls (.int nn :: .int dp :: .ref b :: .int sp :: .ref a :: st)) rfl hsz rfl hd hf (W := Wd) (by show 2 * 0 + _ ≤ _; omega) hlo
  have C1 := CHr.keep K' (fun x hx => by cases List.mem_singleton.mp hx; exact sf) C.1
  exact Goes.go stp (K T' h' ⟨L, X', N', e', K0.trans K' (fun x hx => by cases List.mem_singleton.mp hx; exact hb), es, O, hws, hZ, ⟨k0, hS, Nat.le_trans hk K'.1⟩, C.trans C1⟩ K' C1 B')
end Wk
/-- what a callee asks of the point and of its arguments; what it leaves -/
abbrev PreB (R : Room) (as' : Array Value) (h : Heap) (mc ms : Nat) : Pt → Array Value → Prop := fun A a => a = as' ∧ A.U.heap = h ∧ A.cells + mc ≤ R.cells ∧ A.slots + ms ≤ R.slots
abbrev PostB (Z : State) (h : Heap) (ws : List Addr) (Q : Option Value → Heap → Prop) (mc ms : Nat) : Pt → Array Value → Option Value → Pt → Prop := fun A _ v B => ∃ L, (Fr Z.heap.size L ∧ Keep h B.U.heap ws ∧ Q v B.U.heap) ∧ B.locs = A.locs ++ L ∧ B.cells = A.cells + mc ∧ B.slots = A.slots + ms
abbrev PostBW (Z : State) (EL : List (String × Nat)) (vm0 : Vm) (h : Heap) (ws : List Addr) (Q : Option Value → Heap → Prop) (mc ms : Nat) : Pt → Array Value → Option Value → Pt → Prop := fun A _ v B => ∃ L, (Fr Z.heap.size L ∧ Keep h B.U.heap ws ∧ Q v B.U.heap) ∧ B.locs = A.locs ++ L ∧ B.cells = A.cells + mc ∧ B.slots = A.slots + ms ∧ CHr Z EL vm0 h B.U.vm B.U.heap
/-- the end of a body that interns nothing -/
def PostN (s Z : State) (h0 : Heap) (ws : List Addr) (Q : Option Value → Heap → Prop) (mc ms : Nat) (o : Outcome) (U : State) : Prop :=
  ∃ v L, o = .returned v ∧ (Fr Z.heap.size L ∧ Keep h0 U.heap ws ∧ Q v U.heap) ∧ FrameEnd s o U L mc ms
/-- the end of a body that may intern -/
def PostW (s Z : State) (EL : List (String × Nat)) (h0 : Heap) (ws : List Addr) (Q : Option Value → Heap → Prop) (mc ms : Nat) (o : Outcome) (U : State) : Prop :=
  ∃ v L, o = .returned v ∧ (Fr Z.heap.size L ∧ Keep h0 U.heap ws ∧ Q v U.heap) ∧ CHr Z EL s.vm h0 U.vm U.heap ∧ ReturnedEndW s o U L mc ms
/-- the contract of a body that interns nothing -/
def CN (wl : List Cond) (l : Launch) (Z : State) (y : MethodName) (bytes : ByteArray) (ml : Nat) (ret : Option FieldType) (rm : Room) (as' : Array Value) (h0 : Heap) (ws : List Addr) (Q : Option Value → Heap → Prop) : Prop :=
  MetFree l y (head1 (Cond.code y bytes ml ret :: wl) rm) (fun a U => a = as' ∧ Z.Warmed39 U.vm ∧ U.heap = h0) (fun _ _ _ _ _ => True) (fun _ U o U' => PostN U Z h0 ws Q rm.cells rm.slots o U')
/-- the contract of a body that may intern -/
def CW (wl : List Cond) (l : Launch) (Z : State) (EL : List (String × Nat)) (y : MethodName) (bytes : ByteArray) (ml : Nat) (ret : Option FieldType) (rm : Room) (as' : Array Value) (h0 : Heap) (ws : List Addr) (Q : Option Value → Heap → Prop) : Prop :=
  MetFree l y (head1 (Cond.code y bytes ml ret :: wl) rm) (fun a U => a = as' ∧ Z.Warmed39 U.vm ∧ U.heap = h0 ∧ CHv Z EL U.vm h0 ∧ ∀ x ∈ ws, Safe Z EL U.vm h0 x) (fun _ _ _ _ _ => True) (fun _ U o U' => PostW U Z EL h0 ws Q rm.cells rm.slots o U')
section Calls
variable {p : Program} {l : Launch} {e : Env} {R : Room} {s : State} {m : MethodId} {args : Array Value} {below : List Frame} {meth : Method} {c : Code} {Z : State} {EL : List (String × Nat)} {h0 : Heap} {ws : List Addr} {vm0 : Vm} {T : State} {h : Heap} {cells slots : Nat} {a0 : Array Value} {Post : Outcome → State → Prop} {pc : Nat} {ls : Array Slot} {st rest : List Value} {own : String}
theorem CN.back {y : MethodName} {bytes : ByteArray} {ml : Nat} {ret : Option FieldType} {rm : Room} {as' : Array Value} {len Wd : Nat} {Q : Option Value → Heap → Prop} (hM : CN [] l Z y bytes ml ret rm as' h ws Q) (hZ : Z.Warmed39 vm0) (wc : (Cond.code y bytes ml ret).before a0 Z = true) (wz : (Cond.initialized y.cls).before a0 Z = true) (hf : rm.frames + 1 ≤ R.frames) (hl : Wd + (ml + 11) + rm.locals ≤ R.locals) :
    Back l R p e below (s.setVm vm0) args y len Wd (PreB R as' h rm.cells rm.slots) (PostB Z h ws Q rm.cells rm.slots) :=
  backOf (s := s.setVm vm0) (Q := fun v h' L => Fr Z.heap.size L ∧ Keep h h' ws ∧ Q v h') hM hZ wc wz hf hl
theorem CW.back {y : MethodName} {bytes : ByteArray} {ml : Nat} {ret : Option FieldType} {rm : Room} {as' : Array Value} {len Wd : Nat} {Q : Option Value → Heap → Prop} (hM : CW [] l Z EL y bytes ml ret rm as' h ws Q) (hZ : Z.Warmed39 vm0) (wc : (Cond.code y bytes ml ret).before a0 Z = true) (wz : (Cond.initialized y.cls).before a0 Z = true) (hf : rm.frames + 1 ≤ R.frames) (hl : Wd + (ml + 11) + rm.locals ≤ R.locals)
    (hEL : EW Z a0 EL) (H : CHv Z EL vm0 h) (hlt : ∀ x ∈ ws, x < h.size) (hsf : ∀ x ∈ ws, Safe Z EL vm0 h x) :
    BackS l R p e below (s.setVm vm0) args y len Wd (PreB R as' h rm.cells rm.slots) (PostBW Z EL vm0 h ws Q rm.cells rm.slots) :=
  BackS.of_freeW (bytes := bytes) (maxL := ml) (ret := ret) (E := fun _ first o t L k n => k = rm.cells ∧ n = rm.slots ∧ (∃ v, o = .returned v ∧ (Fr Z.heap.size L ∧ Keep h t.heap ws ∧ Q v t.heap)) ∧ CHr Z EL first.vm h t.vm t.heap) hM hf hl
    (fun m meth c A a Y hp => have hU : Z.Warmed39 A.U.vm := wtrans (s := s.setVm vm0) hZ Y.warmed
      ⟨by show (Cond.and _ .tt).before a A.U = true; rw [Cond.before_and, mv hU wc]; rfl, mv hU wc, mv hU wz, hp.2.2.1, hp.2.2.2⟩)
    (fun m meth c A a g mk Y hp => ⟨hp.1, wtrans (s := s.setVm vm0) hZ Y.warmed, hp.2.1, (CHv.at Y hZ hEL H).1, fun x hx => (CHv.at Y hZ hEL H).safe (hlt x hx) (hsf x hx)⟩) (fun _ _ _ _ _ _ _ _ _ => trivial)
    (fun _ _ _ _ ⟨v, L, h1, h2, h3, h4⟩ => ⟨L, _, _, h4, rfl, rfl, ⟨v, h1, h2⟩, h3⟩)
    (fun m meth c A a g mk v t L k n Y hp _ _ ⟨e1, e2, ⟨v', e3, e4⟩, e5⟩ => by
      cases e3; subst e1 e2
      exact ⟨L, e4, rfl, rfl, rfl, (CHv.at Y hZ hEL H).trans e5⟩)
theorem Wk.callS (W : Wk p l e R s m args below meth c Z EL h0 ws vm0 T h cells slots) (hx : p.tables.exec = Jvm.exec) (ho : Z.vm.findClass own = some m.cls) {index : Nat} {y : MethodName} {bytes : ByteArray} {ml : Nat} {ret : Option FieldType} (w1 : (Cond.methodLink own index y).before a0 Z = true) (w2 : (Cond.static y).before a0 Z = true) (w3 : (Cond.initialized y.cls).before a0 Z = true) (w4 : (Cond.code y bytes ml ret).before a0 Z = true) (hy : y.cls ≠ "java/lang/invoke/MethodHandle" ∧ y.cls ≠ "java/lang/invoke/VarHandle")
    {Wd mc ms : Nat} {as' : Array Value} {ws' : List Addr} {Q : Option Value → Heap → Prop} (hK : Back l R p e below (s.setVm vm0) args y 3 Wd (PreB R as' h mc ms) (PostB Z h ws' Q mc ms)) (hsz : ls.size = c.maxLocals) (argsL rest : List Value) (hlen : ∀ sig, parseMethodDescriptor y.desc = some sig → argsL.length = sig.parameters.length) (hst : st = argsL.reverse ++ rest) (has : argsL.toArray = as') (hW : (rest.map fun v => v.category).sum ≤ Wd) (pc' : Nat) (hd : decode c.code pc = .ok (.invokestatic index, 3)) (hp : pc + 3 = pc') (hc : cells + mc ≤ R.cells) (hs : slots + ms ≤ R.slots) (hws' : ∀ x ∈ ws', (x ∈ ws ∨ h0.size ≤ x) ∧ Safe Z EL vm0 h x)
    (K : ∀ (v : Option Value) (T' : State) (h' : Heap), Wk p l e R s m args below meth c Z EL h0 ws vm0 T' h' (cells + mc) (slots + ms) → Keep h h' ws' → CHr Z EL vm0 h vm0 h' → Q v h' → Goes p e below Post (T'.setTop (mkF m pc' ls (v.toList ++ rest)))) : Goes p e below Post (T.setTop (mkF m pc ls st)) := by
  subst hp hst
  have ho' := W.wown ho
  obtain ⟨locs, X, N, eh, K0, es, O, hws, hZ, ⟨k0, hS, hk⟩, C⟩ := W
  obtain ⟨v, _, ⟨T1, L1', k1, n1⟩, -, X1, ⟨L1, ⟨q1, q2, q3⟩, l1, y1, z1⟩, stp⟩ := Jvm.LawKit.callS X hx ho' (mvT (s := s.setVm vm0) hZ w1) (mvT (s := s.setVm vm0) hZ w2) (mvT (s := s.setVm vm0) hZ w3) (mvT (s := s.setVm vm0) hZ w4) hy hK (g := mkF m pc ls (argsL.reverse ++ rest)) rfl hsz hlen rfl (by show 2 * 0 + _ ≤ _; omega) hd (fun _ _ => ⟨has, eh, hc, hs⟩)
  dsimp only [Pt.U, Pt.locs, Pt.cells, Pt.slots] at X1 l1 y1 z1 stp q1 q2 q3
  subst l1 y1 z1
  have C1 := CHr.keep q2 (fun x hx => (hws' x hx).2) C.1
  exact Goes.go stp (K v T1 T1.heap ⟨_, X1, N.app q1, rfl, K0.trans q2 (fun x hx => (hws' x hx).1), es, O, hws, hZ, ⟨k0, hS, Nat.le_trans hk q2.1⟩, C.trans C1⟩ q2 C1 q3)
theorem Wk.special (W : Wk p l e R s m args below meth c Z EL h0 ws vm0 T h cells slots) (hx : p.tables.exec = Jvm.exec) (ho : Z.vm.findClass own = some m.cls) {index : Nat} {y : MethodName} (hy1 : y.name = "<init>") {bytes : ByteArray} {ml : Nat} (w1 : (Cond.methodLink own index y).before a0 Z = true) (w2 : (Cond.instanceMethod y).before a0 Z = true) (w4 : (Cond.code y bytes ml none).before a0 Z = true) (hy : y.cls ≠ "java/lang/invoke/MethodHandle" ∧ y.cls ≠ "java/lang/invoke/VarHandle")
    {Wd mc ms : Nat} {as' : Array Value} {ws' : List Addr} {Q : Option Value → Heap → Prop} (hK : Back l R p e below (s.setVm vm0) args y 3 Wd (PreB R as' h mc ms) (PostB Z h ws' Q mc ms)) (a : Addr) (hsz : ls.size = c.maxLocals) (argsL rest : List Value) (hlen : ∀ sig, parseMethodDescriptor y.desc = some sig → argsL.length = sig.parameters.length) (hst : st = argsL.reverse ++ .ref a :: rest) (has : (Value.ref a :: argsL).toArray = as') (hW : (rest.map fun v => v.category).sum ≤ Wd) (pc' : Nat) (hd : decode c.code pc = .ok (.invokespecial index, 3)) (hp : pc + 3 = pc') (hc : cells + mc ≤ R.cells) (hs : slots + ms ≤ R.slots) (hws' : ∀ x ∈ ws', (x ∈ ws ∨ h0.size ≤ x) ∧ Safe Z EL vm0 h x)
    (K : ∀ (v : Option Value) (T' : State) (h' : Heap), Wk p l e R s m args below meth c Z EL h0 ws vm0 T' h' (cells + mc) (slots + ms) → Keep h h' ws' → CHr Z EL vm0 h vm0 h' → Q v h' → Goes p e below Post (T'.setTop (mkF m pc' ls (v.toList ++ rest)))) : Goes p e below Post (T.setTop (mkF m pc ls st)) := by
  subst hp hst
  have ho' := W.wown ho
  obtain ⟨locs, X, N, eh, K0, es, O, hws, hZ, ⟨k0, hS, hk⟩, C⟩ := W
  obtain ⟨v, _, ⟨T1, L1', k1, n1⟩, -, X1, ⟨L1, ⟨q1, q2, q3⟩, l1, y1, z1⟩, stp⟩ := X.specialBack hx hy1 ho' (mvT (s := s.setVm vm0) hZ w1) (mvT (s := s.setVm vm0) hZ w2) (mvT (s := s.setVm vm0) hZ w4) hy hK (g := mkF m pc ls (argsL.reverse ++ .ref a :: rest)) rfl hsz (Steps.refl _) hlen rfl (by show 2 * 0 + _ ≤ _; omega) hd (fun _ _ => ⟨has, eh, hc, hs⟩)
  dsimp only [Pt.U, Pt.locs, Pt.cells, Pt.slots] at X1 l1 y1 z1 stp q1 q2 q3
  subst l1 y1 z1
  have C1 := CHr.keep q2 (fun x hx => (hws' x hx).2) C.1
  exact Goes.run stp (K v T1 T1.heap ⟨_, X1, N.app q1, rfl, K0.trans q2 (fun x hx => (hws' x hx).1), es, O, hws, hZ, ⟨k0, hS, Nat.le_trans hk q2.1⟩, C.trans C1⟩ q2 C1 q3)
theorem Wk.virtual (W : Wk p l e R s m args below meth c Z EL h0 ws vm0 T h cells slots) (hx : p.tables.exec = Jvm.exec) (ho : Z.vm.findClass own = some m.cls) {index : Nat} {C' : String} {y z : MethodName} (w1 : (Cond.methodLink own index y).before a0 Z = true) (w2 : (Cond.declares y).before a0 Z = true) (w3 : (Cond.selects C' y z).before a0 Z = true) (w4 : (Cond.instanceMethod z).before a0 Z = true) (nf : NotFace (s.setVm vm0) y) (hy : y.cls ≠ "java/lang/invoke/MethodHandle" ∧ y.cls ≠ "java/lang/invoke/VarHandle")
    {Wd mc ms : Nat} {as' : Array Value} {ws' : List Addr} {Q : Option Value → Heap → Prop} (hK : Back l R p e below (s.setVm vm0) args z 3 Wd (PreB R as' h mc ms) (PostB Z h ws' Q mc ms)) {a : Addr} (E : Exa Z h a C') (hsz : ls.size = c.maxLocals) (argsL rest : List Value) (hlen : ∀ sig, parseMethodDescriptor y.desc = some sig → argsL.length = sig.parameters.length) (hst : st = argsL.reverse ++ .ref a :: rest) (has : (Value.ref a :: argsL).toArray = as') (hW : (rest.map fun v => v.category).sum ≤ Wd) (pc' : Nat) (hd : decode c.code pc = .ok (.invokevirtual index, 3)) (hp : pc + 3 = pc') (hc : cells + mc ≤ R.cells) (hs : slots + ms ≤ R.slots) (hws' : ∀ x ∈ ws', (x ∈ ws ∨ h0.size ≤ x) ∧ Safe Z EL vm0 h x)
    (K : ∀ (v : Option Value) (T' : State) (h' : Heap), Wk p l e R s m args below meth c Z EL h0 ws vm0 T' h' (cells + mc) (slots + ms) → Keep h h' ws' → CHr Z EL vm0 h vm0 h' → Q v h' → Goes p e below Post (T'.setTop (mkF m pc' ls (v.toList ++ rest)))) : Goes p e below Post (T.setTop (mkF m pc ls st)) := by
  subst hp hst
  have ho' := W.wown ho
  obtain ⟨locs, X, N, eh, K0, es, O, hws, hZ, ⟨k0, hS, hk⟩, C⟩ := W
  obtain ⟨cq, kq, qa, qb, qc⟩ := isOf (s := s.setVm vm0) hZ eh E
  obtain ⟨v, _, ⟨T1, L1', k1, n1⟩, -, X1, ⟨L1, ⟨q1, q2, q3⟩, l1, y1, z1⟩, stp⟩ := X.virtualBack hx ho' (mvT (s := s.setVm vm0) hZ w1) (mvT (s := s.setVm vm0) hZ w2) nf (mvT (s := s.setVm vm0) hZ w3) (mvT (s := s.setVm vm0) hZ w4) hy hK qa qc (g := mkF m pc ls (argsL.reverse ++ .ref a :: rest)) rfl hsz (Steps.refl _) hlen rfl (by show 2 * 0 + _ ≤ _; omega) hd (fun _ _ => ⟨has, eh, hc, hs⟩)
  dsimp only [Pt.U, Pt.locs, Pt.cells, Pt.slots] at X1 l1 y1 z1 stp q1 q2 q3
  subst l1 y1 z1
  have C1 := CHr.keep q2 (fun x hx => (hws' x hx).2) C.1
  exact Goes.run stp (K v T1 T1.heap ⟨_, X1, N.app q1, rfl, K0.trans q2 (fun x hx => (hws' x hx).1), es, O, hws, hZ, ⟨k0, hS, Nat.le_trans hk q2.1⟩, C.trans C1⟩ q2 C1 q3)
theorem Wk.priv (W : Wk p l e R s m args below meth c Z EL h0 ws vm0 T h cells slots) (hx : p.tables.exec = Jvm.exec) (ho : Z.vm.findClass own = some m.cls) {index : Nat} {y : MethodName} {bytes : ByteArray} {ml : Nat} {ret : Option FieldType} (w1 : (Cond.methodLink own index y).before a0 Z = true) (w2 : (Cond.instanceMethod y).before a0 Z = true) (w3 : (Cond.selects y.cls y y).before a0 Z = true) (w5 : (Cond.privateMethod y).before a0 Z = true) (w4 : (Cond.code y bytes ml ret).before a0 Z = true) (hy : y.cls ≠ "java/lang/invoke/MethodHandle" ∧ y.cls ≠ "java/lang/invoke/VarHandle")
    {Wd mc ms : Nat} {as' : Array Value} {ws' : List Addr} {Q : Option Value → Heap → Prop} (hK : Back l R p e below (s.setVm vm0) args y 3 Wd (PreB R as' h mc ms) (PostB Z h ws' Q mc ms)) {a : Addr} {C' : String} (E : Exa Z h a C') (hsz : ls.size = c.maxLocals) (argsL rest : List Value) (hlen : ∀ sig, parseMethodDescriptor y.desc = some sig → argsL.length = sig.parameters.length) (hst : st = argsL.reverse ++ .ref a :: rest) (has : (Value.ref a :: argsL).toArray = as') (hW : (rest.map fun v => v.category).sum ≤ Wd) (pc' : Nat) (hd : decode c.code pc = .ok (.invokevirtual index, 3)) (hp : pc + 3 = pc') (hc : cells + mc ≤ R.cells) (hs : slots + ms ≤ R.slots) (hws' : ∀ x ∈ ws', (x ∈ ws ∨ h0.size ≤ x) ∧ Safe Z EL vm0 h x)
    (K : ∀ (v : Option Value) (T' : State) (h' : Heap), Wk p l e R s m args below meth c Z EL h0 ws vm0 T' h' (cells + mc) (slots + ms) → Keep h h' ws' → CHr Z EL vm0 h vm0 h' → Q v h' → Goes p e below Post (T'.setTop (mkF m pc' ls (v.toList ++ rest)))) : Goes p e below Post (T.setTop (mkF m pc ls st)) := by
  subst hp hst
  have ho' := W.wown ho
  obtain ⟨locs, X, N, eh, K0, es, O, hws, hZ, ⟨k0, hS, hk⟩, C⟩ := W
  obtain ⟨cq, hcq, hcv⟩ := E.cell
  obtain ⟨v, _, ⟨T1, L1', k1, n1⟩, -, X1, ⟨L1, ⟨q1, q2, q3⟩, l1, y1, z1⟩, stp⟩ := X.privateBack hx ho' (mvT (s := s.setVm vm0) hZ w1) (mvT (s := s.setVm vm0) hZ w2) (mvT (s := s.setVm vm0) hZ w3) (Cond.privateMethod_at (mvP (s := s.setVm vm0) hZ w5 (args := #[]))) (mvT (s := s.setVm vm0) hZ w4) hy hK (g := mkF m pc ls (argsL.reverse ++ .ref a :: rest)) rfl hsz (Steps.refl _) (by rw [eh]; exact hcq) hcv hlen rfl (by show 2 * 0 + _ ≤ _; omega) hd (fun _ _ => ⟨has, eh, hc, hs⟩)
  dsimp only [Pt.U, Pt.locs, Pt.cells, Pt.slots] at X1 l1 y1 z1 stp q1 q2 q3
  subst l1 y1 z1
  have C1 := CHr.keep q2 (fun x hx => (hws' x hx).2) C.1
  exact Goes.run stp (K v T1 T1.heap ⟨_, X1, N.app q1, rfl, K0.trans q2 (fun x hx => (hws' x hx).1), es, O, hws, hZ, ⟨k0, hS, Nat.le_trans hk q2.1⟩, C.trans C1⟩ q2 C1 q3)
theorem Wk.iface (W : Wk p l e R s m args below meth c Z EL h0 ws vm0 T h cells slots) (hx : p.tables.exec = Jvm.exec) (ho : Z.vm.findClass own = some m.cls) {index count : Nat} {C' : String} {y z : MethodName} (w1 : (Cond.methodLink own index y).before a0 Z = true) (w2 : (Cond.declares y).before a0 Z = true) (w3 : (Cond.interfaceMethod y.cls y.cls y.name y.desc).before a0 Z = true) (w4 : (Cond.selects C' y z).before a0 Z = true) (w5 : (Cond.instanceMethod z).before a0 Z = true) (w6 : (Cond.publicMethod z).before a0 Z = true) (w7 : (Cond.unhidden C' y.name y.desc).before a0 Z = true) (w8 : (Cond.castable C' y.cls).before a0 Z = true) (hI : ((Cond.interfaceMethod y.cls y.cls y.name y.desc).onTables && (Cond.interfaceMethod y.cls y.cls y.name y.desc).keepsFace) = true) (hy : y.cls ≠ "java/lang/invoke/MethodHandle" ∧ y.cls ≠ "java/lang/invoke/VarHandle")
    {Wd mc ms : Nat} {as' : Array Value} {ws' : List Addr} {Q : Option Value → Heap → Prop} (hK : Back l R p e below (s.setVm vm0) args z 5 Wd (PreB R as' h mc ms) (PostB Z h ws' Q mc ms)) {a : Addr} (E : Exa Z h a C') (hsz : ls.size = c.maxLocals) (argsL rest : List Value) (hlen : ∀ sig, parseMethodDescriptor y.desc = some sig → argsL.length = sig.parameters.length) (hst : st = argsL.reverse ++ .ref a :: rest) (has : (Value.ref a :: argsL).toArray = as') (hW : (rest.map fun v => v.category).sum ≤ Wd) (pc' : Nat) (hd : decode c.code pc = .ok (.invokeinterface index count, 5)) (hp : pc + 5 = pc') (hc : cells + mc ≤ R.cells) (hs : slots + ms ≤ R.slots) (hws' : ∀ x ∈ ws', (x ∈ ws ∨ h0.size ≤ x) ∧ Safe Z EL vm0 h x)
    (K : ∀ (v : Option Value) (T' : State) (h' : Heap), Wk p l e R s m args below meth c Z EL h0 ws vm0 T' h' (cells + mc) (slots + ms) → Keep h h' ws' → CHr Z EL vm0 h vm0 h' → Q v h' → Goes p e below Post (T'.setTop (mkF m pc' ls (v.toList ++ rest)))) : Goes p e below Post (T.setTop (mkF m pc ls st)) := by
  subst hp hst
  have ho' := W.wown ho
  obtain ⟨locs, X, N, eh, K0, es, O, hws, hZ, ⟨k0, hS, hk⟩, C⟩ := W
  obtain ⟨cq, kq, qa, qb, qc⟩ := isOf (s := s.setVm vm0) hZ eh E
  obtain ⟨v, _, ⟨T1, L1', k1, n1⟩, -, X1, ⟨L1, ⟨q1, q2, q3⟩, l1, y1, z1⟩, stp⟩ := X.interfaceBack hx ho' (mvT (s := s.setVm vm0) hZ w1) (mvT (s := s.setVm vm0) hZ w2) (mvT (s := s.setVm vm0) hZ w3 hI) (mvT (s := s.setVm vm0) hZ w4) (mvT (s := s.setVm vm0) hZ w5) (mvT (s := s.setVm vm0) hZ w6) (mvT (s := s.setVm vm0) hZ w7) (mvT (s := s.setVm vm0) hZ w8) hy hK qa qb qc (g := mkF m pc ls (argsL.reverse ++ .ref a :: rest)) rfl hsz (Steps.refl _) hlen rfl (by show 2 * 0 + _ ≤ _; omega) hd (fun _ _ => ⟨has, eh, hc, hs⟩)
  dsimp only [Pt.U, Pt.locs, Pt.cells, Pt.slots] at X1 l1 y1 z1 stp q1 q2 q3
  subst l1 y1 z1
  have C1 := CHr.keep q2 (fun x hx => (hws' x hx).2) C.1
  exact Goes.run stp (K v T1 T1.heap ⟨_, X1, N.app q1, rfl, K0.trans q2 (fun x hx => (hws' x hx).1), es, O, hws, hZ, ⟨k0, hS, Nat.le_trans hk q2.1⟩, C.trans C1⟩ q2 C1 q3)
theorem Wk.callSW (W : Wk p l e R s m args below meth c Z EL h0 ws vm0 T h cells slots) (hx : p.tables.exec = Jvm.exec) (ho : Z.vm.findClass own = some m.cls) {index : Nat} {y : MethodName} {bytes : ByteArray} {ml : Nat} {ret : Option FieldType} (w1 : (Cond.methodLink own index y).before a0 Z = true) (w2 : (Cond.static y).before a0 Z = true) (w3 : (Cond.initialized y.cls).before a0 Z = true) (w4 : (Cond.code y bytes ml ret).before a0 Z = true) (hy : y.cls ≠ "java/lang/invoke/MethodHandle" ∧ y.cls ≠ "java/lang/invoke/VarHandle")
    {Wd mc ms : Nat} {as' : Array Value} {ws' : List Addr} {Q : Option Value → Heap → Prop} (hK : BackS l R p e below (s.setVm vm0) args y 3 Wd (PreB R as' h mc ms) (PostBW Z EL vm0 h ws' Q mc ms)) (hsz : ls.size = c.maxLocals) (argsL rest : List Value) (hlen : ∀ sig, parseMethodDescriptor y.desc = some sig → argsL.length = sig.parameters.length) (hst : st = argsL.reverse ++ rest) (has : argsL.toArray = as') (hW : (rest.map fun v => v.category).sum ≤ Wd) (pc' : Nat) (hd : decode c.code pc = .ok (.invokestatic index, 3)) (hp : pc + 3 = pc') (hc : cells + mc ≤ R.cells) (hs : slots + ms ≤ R.slots) (hws' : ∀ x ∈ ws', (x ∈ ws ∨ h0.size ≤ x) ∧ Safe Z EL vm0 h x)
    (K : ∀ (v : Option Value) (vm1 : Vm) (T' : State) (h' : Heap), Wk p l e R s m args below meth c Z EL h0 ws vm1 T' h' (cells + mc) (slots + ms) → Keep h h' ws' → CHr Z EL vm0 h vm1 h' → Q v h' → Goes p e below Post (T'.setTop (mkF m pc' ls (v.toList ++ rest)))) : Goes p e below Post (T.setTop (mkF m pc ls st)) := by
  subst hp hst
  have ho' := W.wown ho
  obtain ⟨locs, X, N, eh, K0, es, O, hws, hZ, ⟨k0, hS, hk⟩, C⟩ := W
  obtain ⟨v, _, ⟨T1, L1', k1, n1⟩, -, X1, hS1, hg1, ⟨L1, ⟨q1, q2, q3⟩, l1, y1, z1, C1⟩, stp⟩ := callSS X hx ho' (mvT (s := s.setVm vm0) hZ w1) (mvT (s := s.setVm vm0) hZ w2) (mvT (s := s.setVm vm0) hZ w3) (mvT (s := s.setVm vm0) hZ w4) hy hK (g := mkF m pc ls (argsL.reverse ++ rest)) rfl hsz hlen rfl (by show 2 * 0 + _ ≤ _; omega) hd (fun _ _ => ⟨has, eh, hc, hs⟩)
  dsimp only [Pt.U, Pt.locs, Pt.cells, Pt.slots] at X1 l1 y1 z1 stp q1 q2 q3 hS1 hg1 C1
  subst l1 y1 z1
  exact Goes.run stp (K v T1.vm T1 T1.heap ⟨_, X1, N.app q1, rfl, K0.trans q2 (fun x hx => (hws' x hx).1), es, O, hws, State.Warmed39.trans (t := s.setVm vm0) hZ hS1.1, ⟨_, hS.trans hS1 (Nat.le_trans hk (by rw [← eh]; exact hg1)), Nat.le_refl _⟩, C.trans C1⟩ q2 C1 q3)
theorem Wk.specialW (W : Wk p l e R s m args below meth c Z EL h0 ws vm0 T h cells slots) (hx : p.tables.exec = Jvm.exec) (ho : Z.vm.findClass own = some m.cls) {index : Nat} {y : MethodName} (hy1 : y.name = "<init>") {bytes : ByteArray} {ml : Nat} (w1 : (Cond.methodLink own index y).before a0 Z = true) (w2 : (Cond.instanceMethod y).before a0 Z = true) (w4 : (Cond.code y bytes ml none).before a0 Z = true) (hy : y.cls ≠ "java/lang/invoke/MethodHandle" ∧ y.cls ≠ "java/lang/invoke/VarHandle")
    {Wd mc ms : Nat} {as' : Array Value} {ws' : List Addr} {Q : Option Value → Heap → Prop} (hK : BackS l R p e below (s.setVm vm0) args y 3 Wd (PreB R as' h mc ms) (PostBW Z EL vm0 h ws' Q mc ms)) (a : Addr) (hsz : ls.size = c.maxLocals) (argsL rest : List Value) (hlen : ∀ sig, parseMethodDescriptor y.desc = some sig → argsL.length = sig.parameters.length) (hst : st = argsL.reverse ++ .ref a :: rest) (has : (Value.ref a :: argsL).toArray = as') (hW : (rest.map fun v => v.category).sum ≤ Wd) (pc' : Nat) (hd : decode c.code pc = .ok (.invokespecial index, 3)) (hp : pc + 3 = pc') (hc : cells + mc ≤ R.cells) (hs : slots + ms ≤ R.slots) (hws' : ∀ x ∈ ws', (x ∈ ws ∨ h0.size ≤ x) ∧ Safe Z EL vm0 h x)
    (K : ∀ (v : Option Value) (vm1 : Vm) (T' : State) (h' : Heap), Wk p l e R s m args below meth c Z EL h0 ws vm1 T' h' (cells + mc) (slots + ms) → Keep h h' ws' → CHr Z EL vm0 h vm1 h' → Q v h' → Goes p e below Post (T'.setTop (mkF m pc' ls (v.toList ++ rest)))) : Goes p e below Post (T.setTop (mkF m pc ls st)) := by
  subst hp hst
  have ho' := W.wown ho
  obtain ⟨locs, X, N, eh, K0, es, O, hws, hZ, ⟨k0, hS, hk⟩, C⟩ := W
  obtain ⟨v, _, ⟨T1, L1', k1, n1⟩, -, X1, hS1, hg1, ⟨L1, ⟨q1, q2, q3⟩, l1, y1, z1, C1⟩, stp⟩ := X.specialBackS hx hy1 ho' (mvT (s := s.setVm vm0) hZ w1) (mvT (s := s.setVm vm0) hZ w2) (mvT (s := s.setVm vm0) hZ w4) hy hK (g := mkF m pc ls (argsL.reverse ++ .ref a :: rest)) rfl hsz (Steps.refl _) hlen rfl (by show 2 * 0 + _ ≤ _; omega) hd (fun _ _ => ⟨has, eh, hc, hs⟩)
  dsimp only [Pt.U, Pt.locs, Pt.cells, Pt.slots] at X1 l1 y1 z1 stp q1 q2 q3 hS1 hg1 C1
  subst l1 y1 z1
  exact Goes.run stp (K v T1.vm T1 T1.heap ⟨_, X1, N.app q1, rfl, K0.trans q2 (fun x hx => (hws' x hx).1), es, O, hws, State.Warmed39.trans (t := s.setVm vm0) hZ hS1.1, ⟨_, hS.trans hS1 (Nat.le_trans hk (by rw [← eh]; exact hg1)), Nat.le_refl _⟩, C.trans C1⟩ q2 C1 q3)
theorem Wk.virtualW (W : Wk p l e R s m args below meth c Z EL h0 ws vm0 T h cells slots) (hx : p.tables.exec = Jvm.exec) (ho : Z.vm.findClass own = some m.cls) {index : Nat} {C' : String} {y z : MethodName} (w1 : (Cond.methodLink own index y).before a0 Z = true) (w2 : (Cond.declares y).before a0 Z = true) (w3 : (Cond.selects C' y z).before a0 Z = true) (w4 : (Cond.instanceMethod z).before a0 Z = true) (nf : NotFace (s.setVm vm0) y) (hy : y.cls ≠ "java/lang/invoke/MethodHandle" ∧ y.cls ≠ "java/lang/invoke/VarHandle")
    {Wd mc ms : Nat} {as' : Array Value} {ws' : List Addr} {Q : Option Value → Heap → Prop} (hK : BackS l R p e below (s.setVm vm0) args z 3 Wd (PreB R as' h mc ms) (PostBW Z EL vm0 h ws' Q mc ms)) {a : Addr} (E : Exa Z h a C') (hsz : ls.size = c.maxLocals) (argsL rest : List Value) (hlen : ∀ sig, parseMethodDescriptor y.desc = some sig → argsL.length = sig.parameters.length) (hst : st = argsL.reverse ++ .ref a :: rest) (has : (Value.ref a :: argsL).toArray = as') (hW : (rest.map fun v => v.category).sum ≤ Wd) (pc' : Nat) (hd : decode c.code pc = .ok (.invokevirtual index, 3)) (hp : pc + 3 = pc') (hc : cells + mc ≤ R.cells) (hs : slots + ms ≤ R.slots) (hws' : ∀ x ∈ ws', (x ∈ ws ∨ h0.size ≤ x) ∧ Safe Z EL vm0 h x)
    (K : ∀ (v : Option Value) (vm1 : Vm) (T' : State) (h' : Heap), Wk p l e R s m args below meth c Z EL h0 ws vm1 T' h' (cells + mc) (slots + ms) → Keep h h' ws' → CHr Z EL vm0 h vm1 h' → Q v h' → Goes p e below Post (T'.setTop (mkF m pc' ls (v.toList ++ rest)))) : Goes p e below Post (T.setTop (mkF m pc ls st)) := by
  subst hp hst
  have ho' := W.wown ho
  obtain ⟨locs, X, N, eh, K0, es, O, hws, hZ, ⟨k0, hS, hk⟩, C⟩ := W
  obtain ⟨cq, kq, qa, qb, qc⟩ := isOf (s := s.setVm vm0) hZ eh E
  obtain ⟨v, _, ⟨T1, L1', k1, n1⟩, -, X1, hS1, hg1, ⟨L1, ⟨q1, q2, q3⟩, l1, y1, z1, C1⟩, stp⟩ := X.virtualBackS hx ho' (mvT (s := s.setVm vm0) hZ w1) (mvT (s := s.setVm vm0) hZ w2) nf (mvT (s := s.setVm vm0) hZ w3) (mvT (s := s.setVm vm0) hZ w4) hy hK qa qc (g := mkF m pc ls (argsL.reverse ++ .ref a :: rest)) rfl hsz (Steps.refl _) hlen rfl (by show 2 * 0 + _ ≤ _; omega) hd (fun _ _ => ⟨has, eh, hc, hs⟩)
  dsimp only [Pt.U, Pt.locs, Pt.cells, Pt.slots] at X1 l1 y1 z1 stp q1 q2 q3 hS1 hg1 C1
  subst l1 y1 z1
  exact Goes.run stp (K v T1.vm T1 T1.heap ⟨_, X1, N.app q1, rfl, K0.trans q2 (fun x hx => (hws' x hx).1), es, O, hws, State.Warmed39.trans (t := s.setVm vm0) hZ hS1.1, ⟨_, hS.trans hS1 (Nat.le_trans hk (by rw [← eh]; exact hg1)), Nat.le_refl _⟩, C.trans C1⟩ q2 C1 q3)
theorem Wk.privW (W : Wk p l e R s m args below meth c Z EL h0 ws vm0 T h cells slots) (hx : p.tables.exec = Jvm.exec) (ho : Z.vm.findClass own = some m.cls) {index : Nat} {y : MethodName} {bytes : ByteArray} {ml : Nat} {ret : Option FieldType} (w1 : (Cond.methodLink own index y).before a0 Z = true) (w2 : (Cond.instanceMethod y).before a0 Z = true) (w3 : (Cond.selects y.cls y y).before a0 Z = true) (w5 : (Cond.privateMethod y).before a0 Z = true) (w4 : (Cond.code y bytes ml ret).before a0 Z = true) (hy : y.cls ≠ "java/lang/invoke/MethodHandle" ∧ y.cls ≠ "java/lang/invoke/VarHandle")
    {Wd mc ms : Nat} {as' : Array Value} {ws' : List Addr} {Q : Option Value → Heap → Prop} (hK : BackS l R p e below (s.setVm vm0) args y 3 Wd (PreB R as' h mc ms) (PostBW Z EL vm0 h ws' Q mc ms)) {a : Addr} {C' : String} (E : Exa Z h a C') (hsz : ls.size = c.maxLocals) (argsL rest : List Value) (hlen : ∀ sig, parseMethodDescriptor y.desc = some sig → argsL.length = sig.parameters.length) (hst : st = argsL.reverse ++ .ref a :: rest) (has : (Value.ref a :: argsL).toArray = as') (hW : (rest.map fun v => v.category).sum ≤ Wd) (pc' : Nat) (hd : decode c.code pc = .ok (.invokevirtual index, 3)) (hp : pc + 3 = pc') (hc : cells + mc ≤ R.cells) (hs : slots + ms ≤ R.slots) (hws' : ∀ x ∈ ws', (x ∈ ws ∨ h0.size ≤ x) ∧ Safe Z EL vm0 h x)
    (K : ∀ (v : Option Value) (vm1 : Vm) (T' : State) (h' : Heap), Wk p l e R s m args below meth c Z EL h0 ws vm1 T' h' (cells + mc) (slots + ms) → Keep h h' ws' → CHr Z EL vm0 h vm1 h' → Q v h' → Goes p e below Post (T'.setTop (mkF m pc' ls (v.toList ++ rest)))) : Goes p e below Post (T.setTop (mkF m pc ls st)) := by
  subst hp hst
  have ho' := W.wown ho
  obtain ⟨locs, X, N, eh, K0, es, O, hws, hZ, ⟨k0, hS, hk⟩, C⟩ := W
  obtain ⟨cq, hcq, hcv⟩ := E.cell
  obtain ⟨v, _, ⟨T1, L1', k1, n1⟩, -, X1, hS1, hg1, ⟨L1, ⟨q1, q2, q3⟩, l1, y1, z1, C1⟩, stp⟩ := X.privateBackS hx ho' (mvT (s := s.setVm vm0) hZ w1) (mvT (s := s.setVm vm0) hZ w2) (mvT (s := s.setVm vm0) hZ w3) (Cond.privateMethod_at (mvP (s := s.setVm vm0) hZ w5 (args := #[]))) (mvT (s := s.setVm vm0) hZ w4) hy hK (g := mkF m pc ls (argsL.reverse ++ .ref a :: rest)) rfl hsz (Steps.refl _) (by rw [eh]; exact hcq) hcv hlen rfl (by show 2 * 0 + _ ≤ _; omega) hd (fun _ _ => ⟨has, eh, hc, hs⟩)
  dsimp only [Pt.U, Pt.locs, Pt.cells, Pt.slots] at X1 l1 y1 z1 stp q1 q2 q3 hS1 hg1 C1
  subst l1 y1 z1
  exact Goes.run stp (K v T1.vm T1 T1.heap ⟨_, X1, N.app q1, rfl, K0.trans q2 (fun x hx => (hws' x hx).1), es, O, hws, State.Warmed39.trans (t := s.setVm vm0) hZ hS1.1, ⟨_, hS.trans hS1 (Nat.le_trans hk (by rw [← eh]; exact hg1)), Nat.le_refl _⟩, C.trans C1⟩ q2 C1 q3)
theorem Wk.ifaceW (W : Wk p l e R s m args below meth c Z EL h0 ws vm0 T h cells slots) (hx : p.tables.exec = Jvm.exec) (ho : Z.vm.findClass own = some m.cls) {index count : Nat} {C' : String} {y z : MethodName} (w1 : (Cond.methodLink own index y).before a0 Z = true) (w2 : (Cond.declares y).before a0 Z = true) (w3 : (Cond.interfaceMethod y.cls y.cls y.name y.desc).before a0 Z = true) (w4 : (Cond.selects C' y z).before a0 Z = true) (w5 : (Cond.instanceMethod z).before a0 Z = true) (w6 : (Cond.publicMethod z).before a0 Z = true) (w7 : (Cond.unhidden C' y.name y.desc).before a0 Z = true) (w8 : (Cond.castable C' y.cls).before a0 Z = true) (hI : ((Cond.interfaceMethod y.cls y.cls y.name y.desc).onTables && (Cond.interfaceMethod y.cls y.cls y.name y.desc).keepsFace) = true) (hy : y.cls ≠ "java/lang/invoke/MethodHandle" ∧ y.cls ≠ "java/lang/invoke/VarHandle")
    {Wd mc ms : Nat} {as' : Array Value} {ws' : List Addr} {Q : Option Value → Heap → Prop} (hK : BackS l R p e below (s.setVm vm0) args z 5 Wd (PreB R as' h mc ms) (PostBW Z EL vm0 h ws' Q mc ms)) {a : Addr} (E : Exa Z h a C') (hsz : ls.size = c.maxLocals) (argsL rest : List Value) (hlen : ∀ sig, parseMethodDescriptor y.desc = some sig → argsL.length = sig.parameters.length) (hst : st = argsL.reverse ++ .ref a :: rest) (has : (Value.ref a :: argsL).toArray = as') (hW : (rest.map fun v => v.category).sum ≤ Wd) (pc' : Nat) (hd : decode c.code pc = .ok (.invokeinterface index count, 5)) (hp : pc + 5 = pc') (hc : cells + mc ≤ R.cells) (hs : slots + ms ≤ R.slots) (hws' : ∀ x ∈ ws', (x ∈ ws ∨ h0.size ≤ x) ∧ Safe Z EL vm0 h x)
    (K : ∀ (v : Option Value) (vm1 : Vm) (T' : State) (h' : Heap), Wk p l e R s m args below meth c Z EL h0 ws vm1 T' h' (cells + mc) (slots + ms) → Keep h h' ws' → CHr Z EL vm0 h vm1 h' → Q v h' → Goes p e below Post (T'.setTop (mkF m pc' ls (v.toList ++ rest)))) : Goes p e below Post (T.setTop (mkF m pc ls st)) := by
  subst hp hst
  have ho' := W.wown ho
  obtain ⟨locs, X, N, eh, K0, es, O, hws, hZ, ⟨k0, hS, hk⟩, C⟩ := W
  obtain ⟨cq, kq, qa, qb, qc⟩ := isOf (s := s.setVm vm0) hZ eh E
  obtain ⟨v, _, ⟨T1, L1', k1, n1⟩, -, X1, hS1, hg1, ⟨L1, ⟨q1, q2, q3⟩, l1, y1, z1, C1⟩, stp⟩ := X.interfaceBackS hx ho' (mvT (s := s.setVm vm0) hZ w1) (mvT (s := s.setVm vm0) hZ w2) (mvT (s := s.setVm vm0) hZ w3 hI) (mvT (s := s.setVm vm0) hZ w4) (mvT (s := s.setVm vm0) hZ w5) (mvT (s := s.setVm vm0) hZ w6) (mvT (s := s.setVm vm0) hZ w7) (mvT (s := s.setVm vm0) hZ w8) hy hK qa qb qc (g := mkF m pc ls (argsL.reverse ++ .ref a :: rest)) rfl hsz (Steps.refl _) hlen rfl (by show 2 * 0 + _ ≤ _; omega) hd (fun _ _ => ⟨has, eh, hc, hs⟩)
  dsimp only [Pt.U, Pt.locs, Pt.cells, Pt.slots] at X1 l1 y1 z1 stp q1 q2 q3 hS1 hg1 C1
  subst l1 y1 z1
  exact Goes.run stp (K v T1.vm T1 T1.heap ⟨_, X1, N.app q1, rfl, K0.trans q2 (fun x hx => (hws' x hx).1), es, O, hws, State.Warmed39.trans (t := s.setVm vm0) hZ hS1.1, ⟨_, hS.trans hS1 (Nat.le_trans hk (by rw [← eh]; exact hg1)), Nat.le_refl _⟩, C.trans C1⟩ q2 C1 q3)
theorem Wk.nf (W : Wk p l e R s m args below meth c Z EL h0 ws vm0 T h cells slots) {C' : String} {y : MethodName} (w3 : (Cond.selects C' y y).before a0 Z = true) : NotFace (s.setVm vm0) y := notFace_of_selects (args := #[]) (mvT (s := s.setVm vm0) W.warm w3)
end Calls
section Ends
variable {p : Program} {l : Launch} {e : Env} {R : Room} {s : State} {m : MethodId} {args : Array Value} {below : List Frame} {meth : Method} {c : Code} {Z : State} {EL : List (String × Nat)} {h0 : Heap} {ws : List Addr} {vm0 : Vm} {T : State} {h : Heap} {cells slots : Nat} {a0 : Array Value} {pc : Nat} {ls : Array Slot} {rest : List Value} {own : String} {mc ms : Nat} {Q : Option Value → Heap → Prop}
theorem CN.of_walk {wl : List Cond} {y : MethodName} {bytes : ByteArray} {ml : Nat} {ret : Option FieldType} {rm : Room} {as' : Array Value} (hpl : plainFor y = true) (O : Ext Z.heap h0) (hws : ∀ x ∈ ws, Z.heap.size ≤ x)
    (body : ∀ (p : Program) (e : Env) (s : State) (m : MethodId) (below : List Frame) (meth : Method) (c : Code) (T : State), Wk p l e rm s m as' below meth c Z [] h0 ws s.vm T h0 0 0 → p.tables.exec = Jvm.exec → c.code = bytes → c.maxLocals = ml → Z.vm.findClass y.cls = some m.cls → meth.name = y.name → meth.sig.returnType = ret → meth.locks = false →
      Goes p e below (PostN s Z h0 ws Q rm.cells rm.slots) (T.setTop (entryFrame m as' ml))) : CN wl l Z y bytes ml ret rm as' h0 ws Q := by
  refine MetFree.of_bodySF hpl hisR ?_
  intro p e s m args below meth c s₁ Bd hml hP hK
  obtain ⟨rfl, hZ, hh⟩ := hP
  have X0 : Stand p l e rm s m args below meth c s₁ [] 0 0 := Stand.of_body Bd
  have e0 : s₁.heap = h0 := by rw [← hh, Bd.state]; rfl
  have hfc := findClass_of_methodNamed Bd.named
  obtain ⟨s₂, o, h1, h2, h3, h4⟩ := body p e s m below meth c s₁ ⟨[], X0, Fr.nil _, e0, Keep.refl _ _, hh, O, hws, hZ, ⟨_, (State.WarmedH.refl s).since 0, Nat.zero_le _⟩, CHr.refl (fun p hp => by cases hp)⟩ Bd.exec Bd.bytes hml (by rw [← hZ.alike.findClass]; exact hfc) (name_of_methodNamed Bd.named Bd.method).1 Bd.returns Bd.notSynchronized
  exact ⟨s₂, o, h1, h2, h3, h4⟩
theorem CW.of_walk {wl : List Cond} {y : MethodName} {bytes : ByteArray} {ml : Nat} {ret : Option FieldType} {rm : Room} {as' : Array Value} (hpl : plainFor y = true) (O : Ext Z.heap h0) (hws : ∀ x ∈ ws, Z.heap.size ≤ x)
    (body : ∀ (p : Program) (e : Env) (s : State) (m : MethodId) (below : List Frame) (meth : Method) (c : Code) (T : State), Wk p l e rm s m as' below meth c Z EL h0 ws s.vm T h0 0 0 → (∀ x ∈ ws, Safe Z EL s.vm h0 x) → p.tables.exec = Jvm.exec → c.code = bytes → c.maxLocals = ml → Z.vm.findClass y.cls = some m.cls → meth.name = y.name → meth.sig.returnType = ret → meth.locks = false →
      Goes p e below (PostW s Z EL h0 ws Q rm.cells rm.slots) (T.setTop (entryFrame m as' ml))) : CW wl l Z EL y bytes ml ret rm as' h0 ws Q := by
  refine MetFree.of_bodySF hpl hisR ?_
  intro p e s m args below meth c s₁ Bd hml hP hK
  obtain ⟨rfl, hZ, hh, hC, hsf⟩ := hP
  have X0 : Stand p l e rm s m args below meth c s₁ [] 0 0 := Stand.of_body Bd
  have e0 : s₁.heap = h0 := by rw [← hh, Bd.state]; rfl
  have hfc := findClass_of_methodNamed Bd.named
  obtain ⟨s₂, o, h1, h2, h3, h4⟩ := body p e s m below meth c s₁ ⟨[], X0, Fr.nil _, e0, Keep.refl _ _, hh, O, hws, hZ, ⟨_, (State.WarmedH.refl s).since 0, Nat.zero_le _⟩, CHr.refl hC⟩ hsf Bd.exec Bd.bytes hml (by rw [← hZ.alike.findClass]; exact hfc) (name_of_methodNamed Bd.named Bd.method).1 Bd.returns Bd.notSynchronized
  exact ⟨s₂, o, h1, h2, h3, h4⟩
theorem Wk.retI (W : Wk p l e R s m args below meth c Z EL h0 ws s.vm T h cells slots) (hx : p.tables.exec = Jvm.exec) {z : Int32} (hret : meth.sig.returnType = some .int) (hlk : meth.locks = false) (hd : decode c.code pc = .ok (.ireturn, 1)) (hc : cells ≤ mc) (hs : slots ≤ ms) (q : Q (some (.int z)) h) : Goes p e below (PostN s Z h0 ws Q mc ms) (T.setTop (mkF m pc ls ((.int z) :: rest))) := by
  obtain ⟨locs, X, N, eh, K0, -⟩ := W
  have X : Stand p l e R s m args below meth c T locs cells slots := X
  obtain ⟨fs, hr, hrun, hended, hW, hsame⟩ := X.leave (v := some (.int z)) (fun q => by rw [hret] at q; cases q) hlk
  exact ⟨_, _, retOut X hx hret rfl (Or.inl ⟨rfl, Or.inl rfl, _, rfl⟩) hd hr, hrun, hended, _, _, rfl, ⟨N, by show Keep h0 T.heap ws; rw [eh]; exact K0, by show Q _ T.heap; rw [eh]; exact q⟩, ⟨_, rfl⟩, hW, hsame.mono hc hs⟩
theorem Wk.retIW (W : Wk p l e R s m args below meth c Z EL h0 ws vm0 T h cells slots) (hx : p.tables.exec = Jvm.exec) (hEL : EW Z a0 EL) {z : Int32} (hret : meth.sig.returnType = some .int) (hlk : meth.locks = false) (hd : decode c.code pc = .ok (.ireturn, 1)) (hc : cells ≤ mc) (hs : slots ≤ ms) (q : Q (some (.int z)) h) : Goes p e below (PostW s Z EL h0 ws Q mc ms) (T.setTop (mkF m pc ls ((.int z) :: rest))) := by
  have W0 := W.mono hc hs
  obtain ⟨locs, X, N, eh, K0, es, -, -, hZ, ⟨k0, hS, hk⟩, C⟩ := W0
  obtain ⟨fs, hr, hrun, hended, hRE⟩ := X.leaveW hS (by rw [eh]; exact hk) (v := some (.int z)) (fun q => by rw [hret] at q; cases q) hlk
  exact ⟨_, _, retOut X hx hret rfl (Or.inl ⟨rfl, Or.inl rfl, _, rfl⟩) hd hr, hrun, hended, _, _, rfl, ⟨N, by show Keep h0 T.heap ws; rw [eh]; exact K0, by show Q _ T.heap; rw [eh]; exact q⟩, by show CHr Z EL s.vm h0 T.vm T.heap; rw [eh]; exact C.trans (CHv.at X hZ hEL C.1), hRE⟩
theorem Wk.retJ (W : Wk p l e R s m args below meth c Z EL h0 ws s.vm T h cells slots) (hx : p.tables.exec = Jvm.exec) {z : Int64} (hret : meth.sig.returnType = some .long) (hlk : meth.locks = false) (hd : decode c.code pc = .ok (.lreturn, 1)) (hc : cells ≤ mc) (hs : slots ≤ ms) (q : Q (some (.long z)) h) : Goes p e below (PostN s Z h0 ws Q mc ms) (T.setTop (mkF m pc ls ((.long z) :: rest))) := by
  obtain ⟨locs, X, N, eh, K0, -⟩ := W
  have X : Stand p l e R s m args below meth c T locs cells slots := X
  obtain ⟨fs, hr, hrun, hended, hW, hsame⟩ := X.leave (v := some (.long z)) (fun q => by rw [hret] at q; cases q) hlk
  exact ⟨_, _, retOut X hx hret rfl (Or.inr (Or.inl ⟨rfl, rfl, _, rfl⟩)) hd hr, hrun, hended, _, _, rfl, ⟨N, by show Keep h0 T.heap ws; rw [eh]; exact K0, by show Q _ T.heap; rw [eh]; exact q⟩, ⟨_, rfl⟩, hW, hsame.mono hc hs⟩
theorem Wk.retJW (W : Wk p l e R s m args below meth c Z EL h0 ws vm0 T h cells slots) (hx : p.tables.exec = Jvm.exec) (hEL : EW Z a0 EL) {z : Int64} (hret : meth.sig.returnType = some .long) (hlk : meth.locks = false) (hd : decode c.code pc = .ok (.lreturn, 1)) (hc : cells ≤ mc) (hs : slots ≤ ms) (q : Q (some (.long z)) h) : Goes p e below (PostW s Z EL h0 ws Q mc ms) (T.setTop (mkF m pc ls ((.long z) :: rest))) := by
  have W0 := W.mono hc hs
  obtain ⟨locs, X, N, eh, K0, es, -, -, hZ, ⟨k0, hS, hk⟩, C⟩ := W0
  obtain ⟨fs, hr, hrun, hended, hRE⟩ := X.leaveW hS (by rw [eh]; exact hk) (v := some (.long z)) (fun q => by rw [hret] at q; cases q) hlk
  exact ⟨_, _, retOut X hx hret rfl (Or.inr (Or.inl ⟨rfl, rfl, _, rfl⟩)) hd hr, hrun, hended, _, _, rfl, ⟨N, by show Keep h0 T.heap ws; rw [eh]; exact K0, by show Q _ T.heap; rw [eh]; exact q⟩, by show CHr Z EL s.vm h0 T.vm T.heap; rw [eh]; exact C.trans (CHv.at X hZ hEL C.1), hRE⟩
theorem Wk.retA (W : Wk p l e R s m args below meth c Z EL h0 ws s.vm T h cells slots) (hx : p.tables.exec = Jvm.exec) {t : FieldType} {z : Value} (ht : t.isReference = true) (hz : z.isRef = true) (hret : meth.sig.returnType = some t) (hlk : meth.locks = false) (hd : decode c.code pc = .ok (.areturn, 1)) (hc : cells ≤ mc) (hs : slots ≤ ms) (q : Q (some z) h) : Goes p e below (PostN s Z h0 ws Q mc ms) (T.setTop (mkF m pc ls (z :: rest))) := by
  obtain ⟨locs, X, N, eh, K0, -⟩ := W
  have X : Stand p l e R s m args below meth c T locs cells slots := X
  obtain ⟨fs, hr, hrun, hended, hW, hsame⟩ := X.leave (v := some z) (fun q => by rw [hret] at q; cases q) hlk
  exact ⟨_, _, retOut X hx hret (by cases t <;> simp [FieldType.isReference] at ht <;> cases z <;> simp [Value.isRef] at hz <;> rfl) (Or.inr (Or.inr (Or.inr (Or.inr ⟨rfl, ht, hz⟩)))) hd hr, hrun, hended, _, _, rfl, ⟨N, by show Keep h0 T.heap ws; rw [eh]; exact K0, by show Q _ T.heap; rw [eh]; exact q⟩, ⟨_, rfl⟩, hW, hsame.mono hc hs⟩
theorem Wk.retAW (W : Wk p l e R s m args below meth c Z EL h0 ws vm0 T h cells slots) (hx : p.tables.exec = Jvm.exec) (hEL : EW Z a0 EL) {t : FieldType} {z : Value} (ht : t.isReference = true) (hz : z.isRef = true) (hret : meth.sig.returnType = some t) (hlk : meth.locks = false) (hd : decode c.code pc = .ok (.areturn, 1)) (hc : cells ≤ mc) (hs : slots ≤ ms) (q : Q (some z) h) : Goes p e below (PostW s Z EL h0 ws Q mc ms) (T.setTop (mkF m pc ls (z :: rest))) := by
  have W0 := W.mono hc hs
  obtain ⟨locs, X, N, eh, K0, es, -, -, hZ, ⟨k0, hS, hk⟩, C⟩ := W0
  obtain ⟨fs, hr, hrun, hended, hRE⟩ := X.leaveW hS (by rw [eh]; exact hk) (v := some z) (fun q => by rw [hret] at q; cases q) hlk
  exact ⟨_, _, retOut X hx hret (by cases t <;> simp [FieldType.isReference] at ht <;> cases z <;> simp [Value.isRef] at hz <;> rfl) (Or.inr (Or.inr (Or.inr (Or.inr ⟨rfl, ht, hz⟩)))) hd hr, hrun, hended, _, _, rfl, ⟨N, by show Keep h0 T.heap ws; rw [eh]; exact K0, by show Q _ T.heap; rw [eh]; exact q⟩, by show CHr Z EL s.vm h0 T.vm T.heap; rw [eh]; exact C.trans (CHv.at X hZ hEL C.1), hRE⟩
theorem Wk.retN (W : Wk p l e R s m args below meth c Z EL h0 ws s.vm T h cells slots) (hx : p.tables.exec = Jvm.exec) {z : Int32} (z' : Int32) {t : FieldType} (hn : nar t z = z') (ht : t = .boolean ∨ t = .byte ∨ t = .char ∨ t = .short) (hret : meth.sig.returnType = some t) (hlk : meth.locks = false) (hd : decode c.code pc = .ok (.ireturn, 1)) (hc : cells ≤ mc) (hs : slots ≤ ms) (q : Q (some (.int z')) h) : Goes p e below (PostN s Z h0 ws Q mc ms) (T.setTop (mkF m pc ls (.int z :: rest))) := by
  subst hn
  obtain ⟨locs, X, N, eh, K0, -⟩ := W
  have X : Stand p l e R s m args below meth c T locs cells slots := X
  obtain ⟨fs, hr, hrun, hended, hW, hsame⟩ := X.leave (v := some (.int (nar t z))) (fun q => by rw [hret] at q; cases q) hlk
  exact ⟨_, _, RoadKit.retN X hx hret ht hd hr, hrun, hended, _, _, rfl, ⟨N, by show Keep h0 T.heap ws; rw [eh]; exact K0, by show Q _ T.heap; rw [eh]; exact q⟩, ⟨_, rfl⟩, hW, hsame.mono hc hs⟩
theorem Wk.retNW (W : Wk p l e R s m args below meth c Z EL h0 ws vm0 T h cells slots) (hx : p.tables.exec = Jvm.exec) (hEL : EW Z a0 EL) {z : Int32} (z' : Int32) {t : FieldType} (hn : nar t z = z') (ht : t = .boolean ∨ t = .byte ∨ t = .char ∨ t = .short) (hret : meth.sig.returnType = some t) (hlk : meth.locks = false) (hd : decode c.code pc = .ok (.ireturn, 1)) (hc : cells ≤ mc) (hs : slots ≤ ms) (q : Q (some (.int z')) h) : Goes p e below (PostW s Z EL h0 ws Q mc ms) (T.setTop (mkF m pc ls (.int z :: rest))) := by
  subst hn
  have W0 := W.mono hc hs
  obtain ⟨locs, X, N, eh, K0, es, -, -, hZ, ⟨k0, hS, hk⟩, C⟩ := W0
  obtain ⟨fs, hr, hrun, hended, hRE⟩ := X.leaveW hS (by rw [eh]; exact hk) (v := some (.int (nar t z))) (fun q => by rw [hret] at q; cases q) hlk
  exact ⟨_, _, RoadKit.retN X hx hret ht hd hr, hrun, hended, _, _, rfl, ⟨N, by show Keep h0 T.heap ws; rw [eh]; exact K0, by show Q _ T.heap; rw [eh]; exact q⟩, by show CHr Z EL s.vm h0 T.vm T.heap; rw [eh]; exact C.trans (CHv.at X hZ hEL C.1), hRE⟩
theorem Wk.retV (W : Wk p l e R s m args below meth c Z EL h0 ws s.vm T h cells slots) (hx : p.tables.exec = Jvm.exec) (hret : meth.sig.returnType = none) (hlk : meth.locks = false) (hd : decode c.code pc = .ok (.return_, 1)) (hc : cells ≤ mc) (hs : slots ≤ ms) (q : Q none h) : Goes p e below (PostN s Z h0 ws Q mc ms) (T.setTop (mkF m pc ls [])) := by
  obtain ⟨locs, X, N, eh, K0, -⟩ := W
  have X : Stand p l e R s m args below meth c T locs cells slots := X
  obtain ⟨fs, hr, hrun, hended, hW, hsame⟩ := X.leave (v := none) (fun _ => rfl) hlk
  exact ⟨_, _, X.returnOut hx hret hd hr, hrun, hended, _, _, rfl, ⟨N, by show Keep h0 T.heap ws; rw [eh]; exact K0, by show Q _ T.heap; rw [eh]; exact q⟩, ⟨_, rfl⟩, hW, hsame.mono hc hs⟩
theorem Wk.retVW (W : Wk p l e R s m args below meth c Z EL h0 ws vm0 T h cells slots) (hx : p.tables.exec = Jvm.exec) (hEL : EW Z a0 EL) (hret : meth.sig.returnType = none) (hlk : meth.locks = false) (hd : decode c.code pc = .ok (.return_, 1)) (hc : cells ≤ mc) (hs : slots ≤ ms) (q : Q none h) : Goes p e below (PostW s Z EL h0 ws Q mc ms) (T.setTop (mkF m pc ls [])) := by
  have W0 := W.mono hc hs
  obtain ⟨locs, X, N, eh, K0, es, -, -, hZ, ⟨k0, hS, hk⟩, C⟩ := W0
  obtain ⟨fs, hr, hrun, hended, hRE⟩ := X.leaveW hS (by rw [eh]; exact hk) (v := none) (fun _ => rfl) hlk
  exact ⟨_, _, X.returnOut hx hret hd hr, hrun, hended, _, _, rfl, ⟨N, by show Keep h0 T.heap ws; rw [eh]; exact K0, by show Q _ T.heap; rw [eh]; exact q⟩, by show CHr Z EL s.vm h0 T.vm T.heap; rw [eh]; exact C.trans (CHv.at X hZ hEL C.1), hRE⟩
end Ends
end Jvm.OwnKit
namespace Jvm.OwnKit
open Sem ClassFile Op Lib Jvm.Stand Jvm.Free Jvm.LawKit Jvm.RoadKit
theorem neA {x y : Addr} (h : @LT.lt Nat _ x y ∨ @LT.lt Nat _ y x) : x ≠ y := h.elim (fun q => Nat.ne_of_lt q) (fun q => Nat.ne_of_gt q)
theorem ltN {a : Addr} {n : Nat} (h : a < n) : @LT.lt Nat _ a n := h
theorem ltA {a : Addr} {n : Nat} (h : @LT.lt Nat _ a n) : a < n := h
theorem all1 {a : Addr} {n : Nat} (h : @LT.lt Nat _ a n) : ∀ x ∈ [a], x < n := fun x hx => by cases List.mem_singleton.mp hx; exact h
theorem neN {x y : Addr} (h : x ≠ y) : @LT.lt Nat _ x y ∨ @LT.lt Nat _ y x := Nat.lt_or_gt_of_ne h
theorem cat_int (x : Int32) : (Value.int x).category = 1 := rfl
theorem cat_long (x : Int64) : (Value.long x).category = 2 := rfl
theorem cat_refv (x : Addr) : (Value.ref x).category = 1 := rfl
theorem cat_null : Value.null.category = 1 := rfl
theorem ref_nar {t : FieldType} {v : Value} (ht : t.isReference = true) (hv : v.isRef = true) : narrow t v = v ∧ fits t v = true := by
  cases t <;> simp [FieldType.isReference] at ht <;> cases v <;> simp [Value.isRef] at hv <;> exact ⟨rfl, rfl⟩
theorem bool_nar {x : Int32} (h : x = 0 ∨ x = 1) : narrow .boolean (.int x) = .int x ∧ fits .boolean (.int x) = true := by rcases h with rfl | rfl <;> exact ⟨rfl, rfl⟩
theorem cat_ref {v : Value} (h : v.isRef = true) : v.category = 1 := by cases v <;> simp [Value.isRef] at h <;> rfl
theorem one_ref {v : Value} (h : v.isRef = true) : Slot.val v = .unset ∨ ∃ w, Slot.val v = .val w ∧ w.category = 1 := Or.inr ⟨v, rfl, cat_ref h⟩
/-- an int of Java's type char, below 256 -/
def C8 (x : Int32) : Prop := ¬ x < 0 ∧ ¬ (255 : Int32) < x
/-- an int of Java's type char -/
def C16 (x : Int32) : Prop := ¬ x < 0 ∧ ¬ (65535 : Int32) < x
theorem i32lt {x y : Int32} : x < y ↔ x.toInt < y.toInt := Int32.lt_iff_toInt_lt
theorem i32nat {y : Int32} (h : y.toBitVec.toNat < 2 ^ 31) : y.toInt = (y.toBitVec.toNat : Int) := by
  have : y.toInt = y.toBitVec.toInt := rfl
  rw [this, BitVec.toInt_eq_toNat_cond, if_pos (by omega)]
theorem C16.nat {x : Int32} (h : C16 x) : x.toBitVec.toNat < 65536 := by
  obtain ⟨h1, h2⟩ := h
  rw [i32lt] at h1 h2
  have e0 : (0 : Int32).toInt = 0 := rfl
  have e1 : (65535 : Int32).toInt = 65535 := rfl
  have : x.toInt = x.toBitVec.toInt := rfl
  have hb := x.toBitVec.isLt
  rw [this, BitVec.toInt_eq_toNat_cond] at h1 h2
  by_cases hc : 2 * x.toBitVec.toNat < 2 ^ 32
  · rw [if_pos hc] at h2; omega
  · rw [if_neg hc] at h1; omega
theorem C16.of {x : Int32} (h : x.toBitVec.toNat < 65536) : C16 x := by
  have e := i32nat (y := x) (by omega)
  constructor
  · rw [i32lt, e]; have e0 : (0 : Int32).toInt = 0 := rfl
    omega
  · rw [i32lt, e]; have e1 : (65535 : Int32).toInt = 65535 := rfl
    omega
theorem C8.of {x : Int32} (h : x.toBitVec.toNat < 256) : C8 x := by
  have e := i32nat (y := x) (by omega)
  constructor
  · rw [i32lt, e]; have e0 : (0 : Int32).toInt = 0 := rfl
    omega
  · rw [i32lt, e]; have e1 : (255 : Int32).toInt = 255 := rfl
    omega
theorem C8.up {x : Int32} (h : C8 x) : C16 x := ⟨h.1, fun q => h.2 (by rw [i32lt] at q ⊢; have e1 : (65535 : Int32).toInt = 65535 := rfl; have e2 : (255 : Int32).toInt = 255 := rfl; omega)⟩
theorem i2c_nat (x : Int32) : (i2c x).toBitVec.toNat = x.toBitVec.toNat % 65536 := by
  have h : (i2c x).toBitVec = (x.toBitVec.setWidth 16).setWidth 32 := rfl
  rw [h, BitVec.toNat_setWidth, BitVec.toNat_setWidth]
  omega
theorem i2c_c16 (x : Int32) : C16 (i2c x) := C16.of (by rw [i2c_nat]; omega)
theorem i2c_id {x : Int32} (h : C16 x) : i2c x = x := by
  apply Int32.toBitVec_inj.mp
  apply BitVec.eq_of_toNat_eq
  rw [i2c_nat]
  have := h.nat
  omega
theorem nar_c16 {x : Int32} (h : C16 x) : nar .char x = x := i2c_id h
theorem and_nat (x : Int32) (k : Nat) (hk : k < 2 ^ 31) : (x &&& Int32.ofNat k).toBitVec.toNat ≤ k := by
  have e : (x &&& Int32.ofNat k).toBitVec.toNat = x.toBitVec.toNat &&& (Int32.ofNat k).toBitVec.toNat := by simp [Int32.toBitVec_and, BitVec.toNat_and]
  have e2 : (Int32.ofNat k).toBitVec.toNat = k := by
    show (BitVec.ofNat 32 k).toNat = k
    rw [BitVec.toNat_ofNat]; omega
  rw [e, e2]; exact Nat.and_le_right
theorem and255 (x : Int32) : C8 (x &&& 255) := C8.of (Nat.lt_of_le_of_lt (and_nat x 255 (by decide)) (by decide))
theorem i2c_255 (x : Int32) : i2c (x &&& 255) = x &&& 255 := i2c_id (and255 x).up
theorem i2c_c8 (x : Int32) : C8 (i2c (x &&& 255)) := by rw [i2c_255]; exact and255 x
theorem ala {α : Type} {P : α → Prop} {y : α} {L : List α} (q : P y) (r : ∀ x ∈ L, P x) : ∀ x ∈ y :: L, P x := fun x z => (List.mem_cons.mp z).elim (fun u => u ▸ q) (r x)
theorem ala0 {α : Type} {P : α → Prop} : ∀ x ∈ ([] : List α), P x := fun _ q => nomatch q
/-- x holds no byte[] -/
def NB (Z : State) (h : Heap) (x : Addr) : Prop := ∀ c : Cell, ¬ Arr Z h x c .byte
theorem NB.exa {Z : State} {h : Heap} {x : Addr} {C : String} {n : Nat} {a0 : Array Value} (E : Exa Z h x C) (w : (Cond.instantiable C n).before a0 Z = true) : NB Z h x := fun c A => RoadKit.ne_arr E w A rfl
theorem NB.arr {Z : State} {h : Heap} {x : Addr} {cl : Cell} {ty : FieldType} (A : Arr Z h x cl ty) (ht : ty ≠ .byte) : NB Z h x := fun c B => by
  cases A.1.symm.trans B.1
  obtain ⟨-, k, h1, comp, h2⟩ := A.2.1
  obtain ⟨-, k', g1, comp', g2⟩ := B.2.1
  cases h1.symm.trans g1
  rw [h2] at g2
  injection g2 with _ e
  exact ht e
theorem NB.arv {Z : State} {h : Heap} {x : Addr} {k : ClassId} {ty : FieldType} {n : Int32} {vs : List Value} {d : Value} (V : Arv Z h x k ty n vs d) (ht : ty ≠ .byte) : NB Z h x := by
  obtain ⟨c, A, -⟩ := V; exact NB.arr A ht
end Jvm.OwnKit
namespace Jvm.OwnKit
open Sem ClassFile Op Lib Jvm.Stand Jvm.Free Jvm.LawKit Jvm.RoadKit
theorem safe0 {Z : State} {vm : Vm} {h : Heap} {x : Addr} : Safe Z [] vm h x := fun B => by obtain ⟨p, hp, -⟩ := B; cases hp
theorem inr1 {a : Addr} {n : Nat} (h : @LE.le Nat _ n a) {ws : List Addr} : ∀ x ∈ [a], x ∈ ws ∨ @LE.le Nat _ n x := fun x hx => by cases List.mem_singleton.mp hx; exact Or.inr h
theorem hws1 {Z : State} {EL : List (String × Nat)} {vm : Vm} {h : Heap} {a : Addr} {n : Nat} {ws : List Addr} (q : a ∈ ws ∨ @LE.le Nat _ n a) (S : Safe Z EL vm h a) : ∀ x ∈ [a], (x ∈ ws ∨ @LE.le Nat _ n x) ∧ Safe Z EL vm h x := fun x hx => by cases List.mem_singleton.mp hx; exact ⟨q, S⟩
theorem i2b_i2b (x : Int32) : nar .byte (i2b x) = i2b x := by
  show ((x.toInt8.toInt32).toInt8).toInt32 = x.toInt8.toInt32
  rw [Int8.toInt8_toInt32]
end Jvm.OwnKit
namespace Jvm.OwnKit
open Sem ClassFile Op Lib Jvm.Stand Jvm.Free Jvm.LawKit Jvm.RoadKit
/-- a class right under the root is no subclass of a class that can be made an object of -/
theorem not_sub {Z : State} {a0 : Array Value} {C O K : String} {n : Nat} (w : (Cond.superclass C O).before a0 Z = true) (wo : (Cond.noSuperclass O).before a0 Z = true) (wi : (Cond.instantiable K n).before a0 Z = true) (h1 : C ≠ K) (h2 : O ≠ K) : ∃ c t, Z.vm.findClass C = some c ∧ Z.vm.findClass K = some t ∧ Z.vm.assignable c t = false := by
  obtain ⟨t, kt, g1, g2, g3, g4, -⟩ := Cond.instantiable_spec wi
  obtain ⟨o, ko, o1, o2, o3, -, -⟩ := Cond.noSuperclass_spec wo
  have neO := ids_ne o1 g1 h2
  have N0 : NS Z O K := by
    refine ⟨o, t, o1, g1, fun fuel => ?_⟩
    cases fuel with
    | zero => rfl
    | succ f => simp [Vm.isSubclassAux, neO, o2, o3]
  obtain ⟨c, t', c1, c2, c3⟩ := NS.step w N0 h1
  cases g1.symm.trans c2
  obtain ⟨p, k, kp, q1, q2, q3, q4, q5, -, q7⟩ := Cond.superclass_spec c1 w
  have ne := ids_ne c1 g1 h1
  have hi : kt.isInterface = false := by
    cases hq : kt.isInterface with
    | false => rfl
    | true => rw [hq] at g4; cases g4
  refine ⟨c, t, c1, g1, ?_⟩
  show Z.vm.assignableAux (255 + 1) c t = false
  simp [Vm.assignableAux, ne, q2, g2, q5, g3, hi, Vm.isSubclass, c3]
end Jvm.OwnKit
namespace Jvm.OwnKit
open Sem ClassFile Op Lib Jvm.Stand Jvm.Free Jvm.LawKit Jvm.RoadKit
section Lits
variable {p : Program} {l : Launch} {e : Env} {R : Room} {s : State} {m : MethodId} {args : Array Value} {below : List Frame} {meth : Method} {c : Code} {Z : State} {EL : List (String × Nat)} {h0 : Heap} {ws : List Addr} {vm0 : Vm} {T : State} {h : Heap} {cells slots : Nat} {a0 : Array Value} {Post : Outcome → State → Prop} {pc : Nat} {ls : Array Slot} {st rest : List Value} {own : String}
/-- ldc of a String constant, its text read -/
theorem Wk.ldcE (W : Wk p l e R s m args below meth c Z EL h0 ws vm0 T h cells slots) (hx : p.tables.exec = Jvm.exec) (ho : Z.vm.findClass own = some m.cls) {index : Nat} {text : String} (w : (Cond.stringLink own index text).before a0 Z = true) (wS : ∀ a ∈ Bundle.stringAtoms, a.before a0 Z = true) (hEL : EW Z a0 EL) (hmem : (own, index) ∈ EL)
    {vs : List Value} {z : Int32} (ht : (∀ c ∈ text.toList, c.toNat < 256) ∧ text.toList.map (fun c => Value.int (Jvm.Lit.byteI c.toNat.toUInt16)) = vs) (hz : ¬ z < 0) (hl : z.toNatClampNeg = vs.length)
    (pc' : Nat) (hd : decode c.code pc = .ok (.ldc index, 2)) (hp : pc + 2 = pc') (n : Nat) (hn : 4 * text.toList.length ≤ n) (hbig : n ≤ 536870912) (hc : cells + 2 ≤ R.cells) (hl' : slots + (n + 4) ≤ R.slots)
    (K : ∀ (vm1 : Vm) (T' : State) (h' : Heap) (a b : Addr) (k : ClassId), Wk p l e R s m args below meth c Z EL h0 ws vm1 T' h' (cells + 2) (slots + (n + 4)) → Ext h h' → CHr Z EL vm0 h vm1 h' → Exa Z h' a "java/lang/String" → Fld Z h' a "java/lang/String" "coder" "B" (.int 0) → Fld Z h' a "java/lang/String" "value" "[B" (.ref b) → Arv Z h' b k .byte z vs (.int 0) → (∀ x, Safe Z EL vm1 h' x → x ≠ a ∧ x ≠ b) → Goes p e below Post (T'.setTop (mkF m pc' ls (.ref a :: st)))) : Goes p e below Post (T.setTop (mkF m pc ls st)) := by
  subst hp
  have ho' := W.wown ho
  obtain ⟨locs, X, N, eh, K0, es, O, hws, hZ, ⟨k0, hS, hk⟩, C⟩ := W
  obtain ⟨a, T', h', k1, b, k, X', e', E, hS', hk', hZ', -, F1, F2, F3, F4, -, -, C', -, hsep, stp⟩ := ldcCH X hx hZ ho' w wS eh hS hk hEL hmem C.1 ht hz hl (g := mkF m pc ls st) rfl hd hn hbig hc hl'
  exact Goes.go stp (K T'.vm T' h' a b k ⟨locs, X', N, e', K0.ext E, es, O, hws, hZ', ⟨k1, hS', hk'⟩, C.trans C'⟩ E C' F1 F2 F3 F4 hsep)
end Lits
end Jvm.OwnKit
namespace Jvm.OwnKit
open Sem ClassFile Op Lib Jvm.Stand Jvm.Free Jvm.LawKit Jvm.RoadKit
theorem ofn {i : Nat} (h : i ≤ 4000) : (Int32.ofNat i).toInt = (i : Int) := Int32.toInt_ofNat_of_lt (by omega)
theorem ofn_lt {i L : Nat} (hl : L ≤ 4000) (h : i < L) : Int32.ofNat i < Int32.ofNat L := by rw [i32lt, ofn (by omega), ofn hl]; omega
theorem ofn_nlt {i L : Nat} (hl : i ≤ 4000) (h : L ≤ i) : ¬ Int32.ofNat i < Int32.ofNat L := by rw [i32lt, ofn hl, ofn (by omega)]; omega
theorem ofn_n0 {i : Nat} (hl : i ≤ 4000) : ¬ Int32.ofNat i < 0 := by
  rw [i32lt, ofn hl]; have e : (0 : Int32).toInt = 0 := rfl
  omega
theorem ofn_clamp {i : Nat} (hl : i ≤ 4000) : (Int32.ofNat i).toNatClampNeg = i := by
  show (Int32.ofNat i).toInt.toNat = i
  rw [ofn hl]; rfl
theorem lt_of_ofn {i L : Nat} (hi : i ≤ 4000) (hl : L ≤ 4000) (h : Int32.ofNat i < Int32.ofNat L) : i < L := by
  rw [i32lt, ofn hi, ofn hl] at h; omega
theorem ofn_succ (i : Nat) : (Int32.ofNat i) + (1 : Int32) = Int32.ofNat (i + 1) := (Int32.ofNat_add i 1).symm
theorem ofn_snoc (L : List Int32) (c : Int32) : Int32.ofNat L.length + (1 : Int32) = Int32.ofNat (L ++ [c]).length := by
  rw [ofn_succ]; simp
theorem ofn_snoc2 (L : List Int32) (c d : Int32) : Int32.ofNat L.length + (2 : Int32) = Int32.ofNat ((L ++ [c]) ++ [d]).length := by
  rw [show (2 : Int32) = Int32.ofNat 2 from rfl, ← Int32.ofNat_add]; simp
theorem ofn_pos {L : Nat} (hl : L ≤ 4000) (h : ¬ (0 : Int32) < Int32.ofNat L) : L = 0 := by
  rw [i32lt, ofn hl] at h; have e : (0 : Int32).toInt = 0 := rfl
  omega
theorem map_get {bs : List Int32} {i : Nat} (hl : bs.length ≤ 4000) (h : i < bs.length) : (bs.map Value.int).getD (Int32.ofNat i).toNatClampNeg (.int 0) = .int (bs.getD i 0) := by
  rw [ofn_clamp (by omega)]
  simp [List.getD_eq_getElem?_getD, h]
theorem nall0 {P : Nat → Prop} : ∀ i, i < 0 → P i := fun _ q => absurd q (Nat.not_lt_zero _)
theorem nallS {P : Nat → Prop} {k : Nat} (h : ∀ i, i < k → P i) (q : P k) : ∀ i, i < k + 1 → P i := fun i hi => by
  rcases Nat.lt_succ_iff_lt_or_eq.mp hi with r | r
  · exact h i r
  · exact r ▸ q
theorem c8_nat {x : Int32} (h : C8 x) : x.toBitVec.toNat < 256 := by
  obtain ⟨h1, h2⟩ := h
  rw [i32lt] at h1 h2
  have e0 : (0 : Int32).toInt = 0 := rfl
  have e1 : (255 : Int32).toInt = 255 := rfl
  have : x.toInt = x.toBitVec.toInt := rfl
  have hb := x.toBitVec.isLt
  rw [this, BitVec.toInt_eq_toNat_cond] at h1 h2
  by_cases hc : 2 * x.toBitVec.toNat < 2 ^ 32
  · rw [if_pos hc] at h2; omega
  · rw [if_neg hc] at h1; omega
theorem i2b_inj {x y : Int32} (hx : C8 x) (hy : C8 y) (h : i2b x = i2b y) : x = y := by
  have h' : x.toInt8 = y.toInt8 := by
    have q := congrArg Int32.toInt8 h
    simpa [i2b] using q
  have q : (x.toBitVec.signExtend 8) = (y.toBitVec.signExtend 8) := congrArg Int8.toBitVec h'
  have q2 := congrArg BitVec.toNat q
  have ex : ∀ z : BitVec 32, (z.signExtend 8).toNat = z.toNat % 256 := fun z => by
    rw [BitVec.signExtend_eq_setWidth_of_le _ (by decide), BitVec.toNat_setWidth]
  rw [ex, ex] at q2
  have h1 := c8_nat hx
  have h2 := c8_nat hy
  apply Int32.toBitVec_inj.mp
  apply BitVec.eq_of_toNat_eq
  omega
theorem getD_map_i2b (cs : List Int32) (i : Nat) : (cs.map i2b).getD i 0 = i2b (cs.getD i 0) := by
  simp only [List.getD_eq_getElem?_getD, List.getElem?_map]
  cases cs[i]? <;> rfl
theorem c8_getD {cs : List Int32} (h8 : ∀ c ∈ cs, C8 c) (i : Nat) : C8 (cs.getD i 0) := by
  rw [List.getD_eq_getElem?_getD]
  cases q : cs[i]? with
  | none => exact C8.of (by decide)
  | some c => exact h8 c (List.mem_of_getElem? q)
/-- the same elements, told otherwise -/
theorem arv_as {Z : State} {h : Heap} {a : Addr} {k : ClassId} {ty : FieldType} {n : Int32} {vs ws : List Value} {d : Value} (V : Arv Z h a k ty n vs d) (q : ∀ i, i < n.toNatClampNeg → vs.getD i d = ws.getD i d) : Arv Z h a k ty n ws d := by
  obtain ⟨c, A, q1, S, q3, H, G⟩ := V
  refine ⟨c, A, q1, S, q3, fun j hj => ?_, fun j hj => ?_⟩
  · rw [← q j (S ▸ hj)]; exact H j hj
  · rw [← q j (S ▸ hj)]; exact G j hj
theorem arv_cp {Z : State} {h : Heap} {a : Addr} {k : ClassId} {ty : FieldType} {n : Int32} {us X Y : List Value} {d : Value} (V : Arv Z h a k ty n (X.take (0 : Int32).toNatClampNeg ++ us ++ Y) d) (hu : us.length = n.toNatClampNeg) : Arv Z h a k ty n us d := by
  refine arv_as V fun i hi => ?_
  have e : (0 : Int32).toNatClampNeg = 0 := rfl
  have hl : i < us.length := by omega
  simp [e, List.getD_eq_getElem?_getD, List.getElem?_append, hl]
theorem fts (f t : Int32) : f + (t - f) = t := by rw [Int32.add_comm, Int32.sub_add_cancel]
end Jvm.OwnKit
/- laws to paste: Road.backV, Road.lenW, Road.chN, Road.codOf (cut by pick.py; bodies as the Statement names them) -/
namespace Jvm.Pilot.@@N@@
namespace StrChars
open Jvm Sem ClassFile Op Lib Jvm.Stand Jvm.Free.XT Jvm.Free.ALB Jvm.Free.JM Jvm.Free
open Jvm.Lib.Cold (StaticIs)
/-- a char array whose places are chars -/
def Ch (a : Addr) (A : Cell) (U : State) : Prop := Arr .char a A U ∧ Typed .char A
theorem Ch.mv {a : Addr} {A : Cell} {U U' : State} (h : Ch a A U) (hal : U.vm.Alike U'.vm) (hh : U'.heap = U.heap) : Ch a A U' := ⟨h.1.mv hal hh, h.2⟩
theorem Ch.keep {a : Addr} {A : Cell} {U U' : State} (h : Ch a A U) (hal : U.vm.Alike U'.vm) (hk : U'.heap[a]? = some A) : Ch a A U' := ⟨h.1.keep hal hk, h.2⟩
/-- what place i of a char[]'s cell holds -/
def cv (A : Cell) (i : Nat) : Int32 := match A.slots[i]? with | some (.int x) => x | _ => 0
theorem Ch.get {a : Addr} {A : Cell} {U : State} (h : Ch a A U) {i : Nat} (hi : i < A.slots.size) : A.slots[i]? = some (.int (cv A i)) := by
  have e := Array.getElem?_eq_getElem hi
  have f := h.2 i _ e
  unfold cv; rw [e]
  generalize A.slots[i] = v at f
  cases v <;> simp [fits] at f ⊢
/-- the byte that i2b leaves of a char -/
def lo8 (x : Int32) : Int32 := x.toInt8.toInt32
theorem fits_lo8 (y : Int32) : fits .byte (.int (lo8 y)) = true := by
  have h1 := y.toInt8.le_toInt
  have h2 := y.toInt8.toInt_lt
  simp only [lo8, fits, Bool.and_eq_true, decide_eq_true_eq, Int32.le_iff_toInt_le, Int8.toInt_toInt32, show (-128 : Int32).toInt = -128 from by decide, show (127 : Int32).toInt = 127 from by decide]
  omega
/-- A' is A but that each place j of lo .. hi - 1 holds f j -/
def Laid (A A' : Cell) (lo hi : Nat) (f : Nat → Value) : Prop := A'.cls = A.cls ∧ A'.vm = A.vm ∧ A'.slots.size = A.slots.size ∧ ∀ i, A'.slots[i]? = if lo ≤ i ∧ i < hi then some (f i) else A.slots[i]?
theorem Laid.zero (A : Cell) (lo : Nat) (f : Nat → Value) : Laid A A lo (lo + 0) f := ⟨rfl, rfl, rfl, fun i => by rw [if_neg (by omega)]⟩
theorem Laid.step {A Ak : Cell} {lo k : Nat} {f : Nat → Value} {v : Value} (h : Laid A Ak lo k f) (hlo : lo ≤ k) (hk : k < Ak.slots.size) (hv : v = f k) : Laid A (Ak.setSlot k v) lo (k + 1) f := by
  refine ⟨h.1, h.2.1, by simpa [Cell.setSlot] using h.2.2.1, fun i => ?_⟩
  by_cases e : k = i
  · subst e; rw [Cell.slots_setSlot_self v hk, if_pos (by omega), hv]
  · rw [Cell.slots_setSlot_ne v e, h.2.2.2 i]
    by_cases q : lo ≤ i ∧ i < k
    · rw [if_pos q, if_pos (by omega)]
    · rw [if_neg q, if_neg (by omega)]
def U16 : String := "java/lang/StringUTF16"
namespace Cmp5
def yN : MethodName := ⟨"java/lang/StringUTF16", "compress", "([CI[BII)I"⟩
abbrev yB : ByteArray := jdk_52_method_21_code
theorem d0 : decode yB 0 = .ok (.iconst 0, 1) := by decide +kernel
theorem d1 : decode yB 1 = .ok (.istore 5, 2) := by decide +kernel
theorem d3 : decode yB 3 = .ok (.iload 5, 2) := by decide +kernel
theorem d5 : decode yB 5 = .ok (.iload 4, 2) := by decide +kernel
theorem d7 : decode yB 7 = .ok (.if_icmp (.ge) 37, 3) := by decide +kernel
theorem d10 : decode yB 10 = .ok (.aload_n 0, 1) := by decide +kernel
theorem d11 : decode yB 11 = .ok (.iload_n 1, 1) := by decide +kernel
theorem d12 : decode yB 12 = .ok (.caload, 1) := by decide +kernel
theorem d13 : decode yB 13 = .ok (.istore 6, 2) := by decide +kernel
theorem d15 : decode yB 15 = .ok (.iload 6, 2) := by decide +kernel
theorem d17 : decode yB 17 = .ok (.sipush 255, 3) := by decide +kernel
theorem d20 : decode yB 20 = .ok (.if_icmp (.le) 6, 3) := by decide +kernel
theorem d26 : decode yB 26 = .ok (.aload_n 2, 1) := by decide +kernel
theorem d27 : decode yB 27 = .ok (.iload_n 3, 1) := by decide +kernel
theorem d28 : decode yB 28 = .ok (.iload 6, 2) := by decide +kernel
theorem d30 : decode yB 30 = .ok (.i2b, 1) := by decide +kernel
theorem d31 : decode yB 31 = .ok (.bastore, 1) := by decide +kernel
theorem d32 : decode yB 32 = .ok (.iinc 1 1, 3) := by decide +kernel
theorem d35 : decode yB 35 = .ok (.iinc 3 1, 3) := by decide +kernel
theorem d38 : decode yB 38 = .ok (.iinc 5 1, 3) := by decide +kernel
theorem d41 : decode yB 41 = .ok (.goto (-38), 3) := by decide +kernel
theorem d44 : decode yB 44 = .ok (.iload 4, 2) := by decide +kernel
theorem d46 : decode yB 46 = .ok (.ireturn, 1) := by decide +kernel
def site : List Cond := []
def tab : Cond := tabOf yN yB 7 (some .int) site
def P (b : Addr) (A : Cell) (d : Addr) (B : Cell) (o q len : Nat) (args : Array Value) (s : State) : Prop := args = #[.ref b, .int (Int32.ofNat o), .ref d, .int (Int32.ofNat q), .int (Int32.ofNat len)] ∧ Ch b A s ∧ Arr .byte d B s ∧ b ≠ d ∧ o + len ≤ A.slots.size ∧ q + len ≤ B.slots.size ∧ ∀ i, i < len → ¬ 255 < cv A (o + i)
def E (b : Addr) (A : Cell) (d : Addr) (B : Cell) (o q len : Nat) (r : Option Value) (s u : State) : Prop := r = some (.int (Int32.ofNat len)) ∧ ∃ B', Put d B' s u ∧ Laid B B' q (q + len) (fun j => Value.int (lo8 (cv A (o + (j - q)))))
/-- no char of the range above 255: len; the places written hold each char's low byte -/
theorem law (l : Launch) (b : Addr) (A : Cell) (d : Addr) (B : Cell) (o q len : Nat) : Law l yN 5 5 0 0 yB 7 (some .int) site (P b A d B o q len) (E b A d B o q len) (copyLocs d q len) 0 0 := by
  refine Law.of_walk (plainFor_of_name (by decide +kernel)) (by decide +kernel) (by decide +kernel) (by decide) (fun _ _ h => by rw [h.1]; rfl) (fun _ U U' hal hh h => ⟨h.1, h.2.1.mv hal hh, h.2.2.1.mv hal hh, h.2.2.2⟩) (fun r U U' V V' h1 hal h2 h => ⟨h.1, h.2.elim fun B' q => ⟨B', q.1.mv h1 h2, q.2⟩⟩) ?_
  intro p e s m args below meth c s₁ X0 hexec hbytes hml hret hlk hnm hown hh0 W hP
  obtain ⟨rfl, hA, hB, hne, l1, l2, hp⟩ := hP
  have c1 : Steps p.tables e below (s₁.setTop (entryFrame m #[.ref b, .int (Int32.ofNat o), .ref d, .int (Int32.ofNat q), .int (Int32.ofNat len)] 7)) (s₁.setTop (mkF m 0 #[.val (.ref b), .val (.int (Int32.ofNat o)), .val (.ref d), .val (.int (Int32.ofNat q)), .val (.int (Int32.ofNat len)), .unset, .unset] [])) := entry rfl
  have hA0 := hA.1.mv X0.warmed.alike hh0
  have hB0 := hB.mv X0.warmed.alike hh0
  have a31 := hA.1.2.2.2
  have c2 : Steps p.tables e below (s₁.setTop (entryFrame m #[.ref b, .int (Int32.ofNat o), .ref d, .int (Int32.ofNat q), .int (Int32.ofNat len)] 7)) (s₁.setTop (mkF m 3 #[.val (.ref b), .val (.int (Int32.ofNat o)), .val (.ref d), .val (.int (Int32.ofNat q)), .val (.int (Int32.ofNat len)), .val (.int 0), .unset] [])) := c1.trans (by
    refine iconstV X0.here hexec rfl 0 (hb hbytes d0) (by decide) ?_
    refine XS.istore X0.here hexec rfl (hb hbytes d1) rfl rfl ?_
    exact Steps.refl _)
  have loop : ∀ (r i : Nat), i + r = len → ∀ (z : Slot), (z = .unset ∨ ∃ w, z = .val w ∧ w.category = 1) → ∀ (Tl : State) (Bk : Cell), Stand p l e { frames := 0, locals := 0, cells := 0, slots := 0 } s m #[.ref b, .int (Int32.ofNat o), .ref d, .int (Int32.ofNat q), .int (Int32.ofNat len)] below meth c Tl ([] ++ copyLocs d q i) 0 0 → Put d Bk s₁ Tl → Laid B Bk q (q + i) (fun j => Value.int (lo8 (cv A (o + (j - q))))) →
      Steps p.tables e below (s₁.setTop (entryFrame m #[.ref b, .int (Int32.ofNat o), .ref d, .int (Int32.ofNat q), .int (Int32.ofNat len)] 7)) (Tl.setTop (mkF m 3 #[.val (.ref b), .val (.int (Int32.ofNat (o + i))), .val (.ref d), .val (.int (Int32.ofNat (q + i))), .val (.int (Int32.ofNat len)), .val (.int (Int32.ofNat i)), z] [])) → ∃ (T' : State) (B' : Cell) (z' : Slot), Stand p l e { frames := 0, locals := 0, cells := 0, slots := 0 } s m #[.ref b, .int (Int32.ofNat o), .ref d, .int (Int32.ofNat q), .int (Int32.ofNat len)] below meth c T' ([] ++ copyLocs d q len) 0 0 ∧ Put d B' s₁ T' ∧ Laid B B' q (q + len) (fun j => Value.int (lo8 (cv A (o + (j - q))))) ∧
      Steps p.tables e below (s₁.setTop (entryFrame m #[.ref b, .int (Int32.ofNat o), .ref d, .int (Int32.ofNat q), .int (Int32.ofNat len)] 7)) (T'.setTop (mkF m 3 #[.val (.ref b), .val (.int (Int32.ofNat (o + len))), .val (.ref d), .val (.int (Int32.ofNat (q + len))), .val (.int (Int32.ofNat len)), .val (.int (Int32.ofNat len)), z'] [])) := by
    intro r
    induction r with
    | zero =>
      intro i hi z hz Tl Bk Xl pl fl cl
      have hil : i = len := by omega
      rw [hil] at Xl fl cl
      exact ⟨Tl, Bk, z, Xl, pl, fl, cl⟩
    | succ r ih =>
      intro i hi z hz Tl Bk Xl pl fl cl
      have all := X0.warmed.alike.symm.trans Xl.warmed.alike
      have hAl := hA0.keep all (pl.other hne hA0.1)
      have hBk := hB0.like all pl.1 fl.1 fl.2.1 fl.2.2.1
      have hlt : q + i < Bk.slots.size := by rw [fl.2.2.1]; omega
      have c3 : Steps p.tables e below (s₁.setTop (entryFrame m #[.ref b, .int (Int32.ofNat o), .ref d, .int (Int32.ofNat q), .int (Int32.ofNat len)] 7)) (Tl.setTop (mkF m 12 #[.val (.ref b), .val (.int (Int32.ofNat (o + i))), .val (.ref d), .val (.int (Int32.ofNat (q + i))), .val (.int (Int32.ofNat len)), .val (.int (Int32.ofNat i)), z] [.int (Int32.ofNat (o + i)), .ref b])) := cl.trans (by
        refine XS.iload Xl.here hexec rfl (hb hbytes d3) rfl ?_
        refine XS.iload Xl.here hexec rfl (hb hbytes d5) rfl ?_
        refine XS.icmpNo Xl.here hexec rfl (hb hbytes d7) rfl (ii_ge_f (lt32 (by omega) (by omega))) ?_
        refine XS.aloadN Xl.here hexec rfl (hb hbytes d10) rfl rfl ?_
        refine XS.iloadN Xl.here hexec rfl (hb hbytes d11) rfl ?_
        exact Steps.refl _)
      have c4 : Steps p.tables e below (s₁.setTop (entryFrame m #[.ref b, .int (Int32.ofNat o), .ref d, .int (Int32.ofNat q), .int (Int32.ofNat len)] 7)) (Tl.setTop (mkF m 13 #[.val (.ref b), .val (.int (Int32.ofNat (o + i))), .val (.ref d), .val (.int (Int32.ofNat (q + i))), .val (.int (Int32.ofNat len)), .val (.int (Int32.ofNat i)), z] [.int (cv A (o + i))])) := c3.trans (by
        refine Xl.aget hexec hAl rfl (hA.get (i := o + i) (by omega)) rfl rfl (hb hbytes d12) ?_
        exact Steps.refl _)
      have c5 : Steps p.tables e below (s₁.setTop (entryFrame m #[.ref b, .int (Int32.ofNat o), .ref d, .int (Int32.ofNat q), .int (Int32.ofNat len)] 7)) (Tl.setTop (mkF m 15 #[.val (.ref b), .val (.int (Int32.ofNat (o + i))), .val (.ref d), .val (.int (Int32.ofNat (q + i))), .val (.int (Int32.ofNat len)), .val (.int (Int32.ofNat i)), .val (.int (cv A (o + i)))] [])) := c4.trans (by
        refine XS.istoreS Xl.here hexec rfl (hb hbytes d13) rfl rfl hz ?_
        exact Steps.refl _)
      have c6 : Steps p.tables e below (s₁.setTop (entryFrame m #[.ref b, .int (Int32.ofNat o), .ref d, .int (Int32.ofNat q), .int (Int32.ofNat len)] 7)) (Tl.setTop (mkF m 31 #[.val (.ref b), .val (.int (Int32.ofNat (o + i))), .val (.ref d), .val (.int (Int32.ofNat (q + i))), .val (.int (Int32.ofNat len)), .val (.int (Int32.ofNat i)), .val (.int (cv A (o + i)))] [.int (lo8 (cv A (o + i))), .int (Int32.ofNat (q + i)), .ref d])) := c5.trans (by
        refine XS.iload Xl.here hexec rfl (hb hbytes d15) rfl ?_
        refine sipushV Xl.here hexec rfl 255 (hb hbytes d17) (by decide) ?_
        refine XS.icmpYes Xl.here hexec rfl (pc0 := 20) rfl (hb hbytes d20) rfl (ii_le_t (hp i (by omega))) (by decide) rfl ?_
        refine XS.aloadN Xl.here hexec rfl (hb hbytes d26) rfl rfl ?_
        refine XS.iloadN Xl.here hexec rfl (hb hbytes d27) rfl ?_
        refine XS.iload Xl.here hexec rfl (hb hbytes d28) rfl ?_
        refine i2b Xl.here hexec rfl (hb hbytes d30) rfl ?_
        exact Steps.refl _)
      obtain ⟨T7, X7, p7, st7⟩ := Xl.aput hexec hBk rfl hlt rfl (fits_lo8 (cv A (o + i))) (g := (mkF m 31 #[.val (.ref b), .val (.int (Int32.ofNat (o + i))), .val (.ref d), .val (.int (Int32.ofNat (q + i))), .val (.int (Int32.ofNat len)), .val (.int (Int32.ofNat i)), .val (.int (cv A (o + i)))] [.int (lo8 (cv A (o + i))), .int (Int32.ofNat (q + i)), .ref d])) rfl (rest := []) rfl (hb hbytes d31)
      have c8 : Steps p.tables e below (s₁.setTop (entryFrame m #[.ref b, .int (Int32.ofNat o), .ref d, .int (Int32.ofNat q), .int (Int32.ofNat len)] 7)) (T7.setTop (mkF m 32 #[.val (.ref b), .val (.int (Int32.ofNat (o + i))), .val (.ref d), .val (.int (Int32.ofNat (q + i))), .val (.int (Int32.ofNat len)), .val (.int (Int32.ofNat i)), .val (.int (cv A (o + i)))] [])) := c6.trans (st7 _ (Steps.refl _))
      have c9 : Steps p.tables e below (s₁.setTop (entryFrame m #[.ref b, .int (Int32.ofNat o), .ref d, .int (Int32.ofNat q), .int (Int32.ofNat len)] 7)) (T7.setTop (mkF m 3 #[.val (.ref b), .val (.int (Int32.ofNat (o + i) + 1)), .val (.ref d), .val (.int (Int32.ofNat (q + i) + 1)), .val (.int (Int32.ofNat len)), .val (.int (Int32.ofNat i + 1)), .val (.int (cv A (o + i)))] [])) := c8.trans (by
        refine iincV X7.here hexec rfl 1 (hb hbytes d32) (by decide) rfl rfl ?_
        refine iincV X7.here hexec rfl 1 (hb hbytes d35) (by decide) rfl rfl ?_
        refine iincV X7.here hexec rfl 1 (hb hbytes d38) (by decide) rfl rfl ?_
        refine XS.goto X7.here hexec rfl (pc0 := 41) rfl (hb hbytes d41) (by decide) rfl ?_
        exact Steps.refl _)
      have c10 : Steps p.tables e below (s₁.setTop (entryFrame m #[.ref b, .int (Int32.ofNat o), .ref d, .int (Int32.ofNat q), .int (Int32.ofNat len)] 7)) (T7.setTop (mkF m 3 #[.val (.ref b), .val (.int (Int32.ofNat (o + (i + 1)))), .val (.ref d), .val (.int (Int32.ofNat (q + (i + 1)))), .val (.int (Int32.ofNat len)), .val (.int (Int32.ofNat (i + 1))), .val (.int (cv A (o + i)))] [])) := by
        have := c9
        rw [succ32, succ32, succ32] at this
        exact this
      exact ih (i + 1) (by omega) _ (Or.inr ⟨_, rfl, rfl⟩) T7 _ (by rw [copyLocs_step, ← List.append_assoc]; exact X7) (pl.trans p7) (fl.step (by omega) hlt (by simp)) c10
  obtain ⟨T9, B9, z9, X9, p9, f9, g9⟩ := loop len 0 (by omega) .unset (Or.inl rfl) s₁ B (by simpa [copyLocs] using X0) ⟨hB0.1, fun _ _ => rfl, rfl⟩ (Laid.zero _ _ _) c2
  have c11 : Steps p.tables e below (s₁.setTop (entryFrame m #[.ref b, .int (Int32.ofNat o), .ref d, .int (Int32.ofNat q), .int (Int32.ofNat len)] 7)) (T9.setTop (mkF m 46 #[.val (.ref b), .val (.int (Int32.ofNat (o + len))), .val (.ref d), .val (.int (Int32.ofNat (q + len))), .val (.int (Int32.ofNat len)), .val (.int (Int32.ofNat len)), z9] [.int (Int32.ofNat len)])) := g9.trans (by
    refine XS.iload X9.here hexec rfl (hb hbytes d3) rfl ?_
    refine XS.iload X9.here hexec rfl (hb hbytes d5) rfl ?_
    refine XS.icmpYes X9.here hexec rfl (pc0 := 7) rfl (hb hbytes d7) rfl (ii_ge_t (nlt32 (by omega) (Nat.le_refl _))) (by decide) rfl ?_
    refine XS.iload X9.here hexec rfl (hb hbytes d44) rfl ?_
    exact Steps.refl _)
  exact ⟨T9, some (.int (Int32.ofNat len)), _, _, _, X9, by simp, rfl, rfl, (fun h => by cases h), ⟨rfl, B9, p9.from hh0, f9⟩, fun fs hl => c11.trans (X9.ireturnOut hexec hret rfl (Or.inl rfl) (hb hbytes d46) hl)⟩
end Cmp5
namespace Cmp3
def yN : MethodName := ⟨"java/lang/StringUTF16", "compress", "([CII)[B"⟩
abbrev yB : ByteArray := jdk_52_method_16_code
theorem d0 : decode yB 0 = .ok (.iload_n 2, 1) := by decide +kernel
theorem d1 : decode yB 1 = .ok (.newarray .byte, 2) := by decide +kernel
theorem d3 : decode yB 3 = .ok (.astore_n 3, 1) := by decide +kernel
theorem d4 : decode yB 4 = .ok (.aload_n 0, 1) := by decide +kernel
theorem d5 : decode yB 5 = .ok (.iload_n 1, 1) := by decide +kernel
theorem d6 : decode yB 6 = .ok (.aload_n 3, 1) := by decide +kernel
theorem d7 : decode yB 7 = .ok (.iconst 0, 1) := by decide +kernel
theorem d8 : decode yB 8 = .ok (.iload_n 2, 1) := by decide +kernel
theorem d9 : decode yB 9 = .ok (.invokestatic 115, 3) := by decide +kernel
theorem d12 : decode yB 12 = .ok (.istore 4, 2) := by decide +kernel
theorem d14 : decode yB 14 = .ok (.iload 4, 2) := by decide +kernel
theorem d16 : decode yB 16 = .ok (.iload_n 2, 1) := by decide +kernel
theorem d17 : decode yB 17 = .ok (.if_icmp (.eq) 40, 3) := by decide +kernel
theorem d57 : decode yB 57 = .ok (.aload_n 3, 1) := by decide +kernel
theorem d58 : decode yB 58 = .ok (.areturn, 1) := by decide +kernel
def site : List Cond := [.arrayClass .byte, Cmp5.tab] ++ staticW U16 115 Cmp5.yN
def tab : Cond := tabOf yN yB 6 (some (.array .byte)) site
def P (b : Addr) (A : Cell) (o len : Nat) (args : Array Value) (s : State) : Prop := args = #[.ref b, .int (Int32.ofNat o), .int (Int32.ofNat len)] ∧ Ch b A s ∧ o + len ≤ A.slots.size ∧ len ≤ 536870912 ∧ ∀ i, i < len → ¬ 255 < cv A (o + i)
def E (b : Addr) (A : Cell) (o len : Nat) (r : Option Value) (s u : State) : Prop := NewArr .byte "[B" len (fun j => .int (lo8 (cv A (o + j)))) r s u ∧ u.heap.size = s.heap.size + 1
/-- no char of the range above 255: a new byte[] of their low bytes -/
theorem law (l : Launch) (b : Addr) (A : Cell) (o len : Nat) : Law l yN 3 3 1 18 yB 6 (some (.array .byte)) site (P b A o len) (E b A o len) [] 1 len := by
  refine Law.of_walk (plainFor_of_name (by decide +kernel)) (by decide +kernel) (by decide +kernel) (by decide) (fun _ _ h => by rw [h.1]; rfl) (fun _ U U' hal hh h => ⟨h.1, h.2.1.mv hal hh, h.2.2⟩) (fun r U U' V V' h1 hal h2 h => ⟨NewArr.mv r U U' V V' h1 hal h2 h.1, by rw [h1, h2]; exact h.2⟩) ?_
  intro p e s m args below meth c s₁ X0 hexec hbytes hml hret hlk hnm hown hh0 W hP
  obtain ⟨rfl, hA, l1, l2, hp⟩ := hP
  have a31 := hA.1.2.2.2
  have c1 : Steps p.tables e below (s₁.setTop (entryFrame m #[.ref b, .int (Int32.ofNat o), .int (Int32.ofNat len)] 6)) (s₁.setTop (mkF m 0 #[.val (.ref b), .val (.int (Int32.ofNat o)), .val (.int (Int32.ofNat len)), .unset, .unset, .unset] [])) := entry rfl
  have c2 : Steps p.tables e below (s₁.setTop (entryFrame m #[.ref b, .int (Int32.ofNat o), .int (Int32.ofNat len)] 6)) (s₁.setTop (mkF m 1 #[.val (.ref b), .val (.int (Int32.ofNat o)), .val (.int (Int32.ofNat len)), .unset, .unset, .unset] [.int (Int32.ofNat len)])) := c1.trans (by
    refine XS.iloadN X0.here hexec rfl (hb hbytes d0) rfl ?_
    exact Steps.refl _)
  obtain ⟨T3, B3, X3, ba3, bs3, bv3, bh3, bf3, st3⟩ := X0.anew hexec (atype := .byte) (wk W (.arrayClass .byte)) rfl (by show len * 1 ≤ _; omega) (by omega) (g := (mkF m 1 #[.val (.ref b), .val (.int (Int32.ofNat o)), .val (.int (Int32.ofNat len)), .unset, .unset, .unset] [.int (Int32.ofNat len)])) rfl (hb hbytes d1) (rest := []) rfl (Nat.le_refl _) (by show 0 + len ≤ len; omega)
  rw [hh0] at ba3 st3
  have kp3 : XT.Kept s T3 := (XT.Kept.of_eq hh0).push bh3
  have hA3 := hA.keep X3.warmed.alike (kp3 _ _ hA.1.1)
  have hne : b ≠ s.heap.size := hA.1.ne
  have c4 : Steps p.tables e below (s₁.setTop (entryFrame m #[.ref b, .int (Int32.ofNat o), .int (Int32.ofNat len)] 6)) (T3.setTop (mkF m 3 #[.val (.ref b), .val (.int (Int32.ofNat o)), .val (.int (Int32.ofNat len)), .unset, .unset, .unset] [.ref s.heap.size])) := c2.trans (st3 _ (Steps.refl _))
  have c5 : Steps p.tables e below (s₁.setTop (entryFrame m #[.ref b, .int (Int32.ofNat o), .int (Int32.ofNat len)] 6)) (T3.setTop (mkF m 9 #[.val (.ref b), .val (.int (Int32.ofNat o)), .val (.int (Int32.ofNat len)), .val (.ref s.heap.size), .unset, .unset] [.int (Int32.ofNat len), .int 0, .ref s.heap.size, .int (Int32.ofNat o), .ref b])) := c4.trans (by
    refine XS.astoreN X3.here hexec rfl (hb hbytes d3) rfl rfl rfl ?_
    refine XS.aloadN X3.here hexec rfl (hb hbytes d4) rfl rfl ?_
    refine XS.iloadN X3.here hexec rfl (hb hbytes d5) rfl ?_
    refine XS.aloadN X3.here hexec rfl (hb hbytes d6) rfl rfl ?_
    refine iconstV X3.here hexec rfl 0 (hb hbytes d7) (by decide) ?_
    refine XS.iloadN X3.here hexec rfl (hb hbytes d8) rfl ?_
    exact Steps.refl _)
  obtain ⟨v6, T6, X6, E6, g6⟩ := X3.callS hexec (Cmp5.law l b A s.heap.size B3 o 0 len) hown (wks W (staticW U16 115 Cmp5.yN)) (wk W Cmp5.tab) (W := 0) (Nat.le_of_ble_eq_true rfl) (Nat.le_of_ble_eq_true rfl) (Nat.le_refl _) (by show 0 + len + 0 ≤ len; omega) (g := (mkF m 9 #[.val (.ref b), .val (.int (Int32.ofNat o)), .val (.int (Int32.ofNat len)), .val (.ref s.heap.size), .unset, .unset] [.int (Int32.ofNat len), .int (Int32.ofNat 0), .ref s.heap.size, .int (Int32.ofNat o), .ref b])) rfl (by rw [hml]; rfl) c5 (argsL := [.ref b, .int (Int32.ofNat o), .ref s.heap.size, .int (Int32.ofNat 0), .int (Int32.ofNat len)]) (rest := []) rfl rfl (by show 2 * 0 + 0 ≤ _; decide) (hb hbytes d9) (⟨rfl, hA3, ba3, hne, l1, by rw [bs3]; simp, hp⟩)
  obtain ⟨rfl, B6, p6, f6⟩ := E6
  have c7 : Steps p.tables e below (s₁.setTop (entryFrame m #[.ref b, .int (Int32.ofNat o), .int (Int32.ofNat len)] 6)) (T6.setTop (mkF m 12 #[.val (.ref b), .val (.int (Int32.ofNat o)), .val (.int (Int32.ofNat len)), .val (.ref s.heap.size), .unset, .unset] [.int (Int32.ofNat len)])) := g6
  have c8 : Steps p.tables e below (s₁.setTop (entryFrame m #[.ref b, .int (Int32.ofNat o), .int (Int32.ofNat len)] 6)) (T6.setTop (mkF m 58 #[.val (.ref b), .val (.int (Int32.ofNat o)), .val (.int (Int32.ofNat len)), .val (.ref s.heap.size), .val (.int (Int32.ofNat len)), .unset] [.ref s.heap.size])) := c7.trans (by
    refine XS.istore X6.here hexec rfl (hb hbytes d12) rfl rfl ?_
    refine XS.iload X6.here hexec rfl (hb hbytes d14) rfl ?_
    refine XS.iloadN X6.here hexec rfl (hb hbytes d16) rfl ?_
    refine XS.icmpYes X6.here hexec rfl (pc0 := 17) rfl (hb hbytes d17) rfl (ii_eq_t rfl) (by decide) rfl ?_
    refine XS.aloadN X6.here hexec rfl (hb hbytes d57) rfl rfl ?_
    exact Steps.refl _)
  have X8 := X6.wide (L' := []) (cells' := 1) (slots' := len) (fun x hx hlt => by
    simp only [List.nil_append, copyLocs, List.mem_map, List.mem_range] at hx
    obtain ⟨i, -, rfl⟩ := hx
    exact absurd hlt (Nat.lt_irrefl _)) (Nat.le_refl _) (by omega)
  exact ⟨T6, some (.ref s.heap.size), _, _, _, X8, rfl, rfl, rfl, (fun h => by cases h), ⟨⟨rfl, B6, ba3.like (X3.warmed.alike.symm.trans X6.warmed.alike) p6.1 f6.1 f6.2.1 f6.2.2.1, f6.2.1.trans bv3, by rw [X6.warmed.alike.findClass, f6.1]; exact bf3, by rw [f6.2.2.1, bs3]; simp, fun j hj => by rw [f6.2.2.2 j, if_pos (by omega)]; rfl, kp3.put p6 (Nat.le_refl _)⟩, by rw [p6.2.2, bh3, hh0]; simp⟩, fun fs hl => c8.trans (X8.areturnOut hexec rfl hret rfl (hb hbytes d58) hl)⟩
end Cmp3
namespace CodL
def yN : MethodName := ⟨"java/lang/StringUTF16", "coderFromArrayLen", "([BI)B"⟩
abbrev yB : ByteArray := jdk_52_method_15_code
theorem d0 : decode yB 0 = .ok (.iload_n 1, 1) := by decide +kernel
theorem d1 : decode yB 1 = .ok (.aload_n 0, 1) := by decide +kernel
theorem d2 : decode yB 2 = .ok (.arraylength, 1) := by decide +kernel
theorem d3 : decode yB 3 = .ok (.isub, 1) := by decide +kernel
theorem d4 : decode yB 4 = .ok (.bipush 31, 2) := by decide +kernel
theorem d6 : decode yB 6 = .ok (.iushr, 1) := by decide +kernel
theorem d7 : decode yB 7 = .ok (.i2b, 1) := by decide +kernel
theorem d8 : decode yB 8 = .ok (.ireturn, 1) := by decide +kernel
def site : List Cond := []
def tab : Cond := tabOf yN yB 2 (some .byte) site
def P (d : Addr) (B : Cell) (args : Array Value) (s : State) : Prop := args = #[.ref d, .int (Int32.ofNat B.slots.size)] ∧ Arr .byte d B s
def E (r : Option Value) (s u : State) : Prop := XT.PureE (some (.int 0)) r s u
/-- an array as long as the number of chars: LATIN1 -/
theorem law (l : Launch) (d : Addr) (B : Cell) : Law l yN 2 2 0 0 yB 2 (some .byte) site (P d B) E [] 0 0 := by
  refine Law.of_walk (plainFor_of_name (by decide +kernel)) (by decide +kernel) (by decide +kernel) (by decide) (fun _ _ h => by rw [h.1]; rfl) (fun _ U U' hal hh h => ⟨h.1, h.2.mv hal hh⟩) (fun r U U' V V' h1 hal h2 h => XT.PureE.mv r U U' V V' h1 hal h2 h) ?_
  intro p e s m args below meth c s₁ X0 hexec hbytes hml hret hlk hnm hown hh0 W hP
  obtain ⟨rfl, hB⟩ := hP
  have hB0 := hB.mv X0.warmed.alike hh0
  have c1 : Steps p.tables e below (s₁.setTop (entryFrame m #[.ref d, .int (Int32.ofNat B.slots.size)] 2)) (s₁.setTop (mkF m 0 #[.val (.ref d), .val (.int (Int32.ofNat B.slots.size))] [])) := entry rfl
  have c2 : Steps p.tables e below (s₁.setTop (entryFrame m #[.ref d, .int (Int32.ofNat B.slots.size)] 2)) (s₁.setTop (mkF m 2 #[.val (.ref d), .val (.int (Int32.ofNat B.slots.size))] [.ref d, .int (Int32.ofNat B.slots.size)])) := c1.trans (by
    refine XS.iloadN X0.here hexec rfl (hb hbytes d0) rfl ?_
    refine XS.aloadN X0.here hexec rfl (hb hbytes d1) rfl rfl ?_
    exact Steps.refl _)
  have c3 : Steps p.tables e below (s₁.setTop (entryFrame m #[.ref d, .int (Int32.ofNat B.slots.size)] 2)) (s₁.setTop (mkF m 8 #[.val (.ref d), .val (.int (Int32.ofNat B.slots.size))] [.int (lo8 (ushr (Int32.ofNat B.slots.size - Int32.ofNat B.slots.size) 31))])) := c2.trans (by
    refine X0.alen hexec hB0 rfl rfl (hb hbytes d2) ?_
    refine XS.isub X0.here hexec rfl (hb hbytes d3) rfl ?_
    refine bipushV X0.here hexec rfl 31 (hb hbytes d4) (by decide) ?_
    refine iushr X0.here hexec rfl (hb hbytes d6) rfl ?_
    refine i2b X0.here hexec rfl (hb hbytes d7) rfl ?_
    exact Steps.refl _)
  have e0 : lo8 (ushr (Int32.ofNat B.slots.size - Int32.ofNat B.slots.size) 31) = 0 := by rw [Int32.sub_self]; decide
  rw [e0] at c3
  exact ⟨s₁, some (.int 0), _, _, _, X0, rfl, rfl, rfl, (fun h => by cases h), ⟨rfl, hh0⟩, fun fs hl => c3.trans (X0.ireturnOut hexec hret rfl (Or.inr (Or.inr (Or.inl rfl))) (hb hbytes d8) hl)⟩
end CodL
/-- the String at a is Latin-1 over a new byte[] (the heap's one new cell): the low bytes of the len chars of A from o on; every cell but a is kept -/
def Got (a : Addr) (D : Cell) (fV fC : Field) (A : Cell) (o len : Nat) (r : Option Value) (s u : State) : Prop := r = none ∧ ∃ D' V : Cell, Blank "java/lang/String" a D' u ∧ Same D D' [fV.slot, fC.slot] ∧ D'.slots[fV.slot]? = some (.ref s.heap.size) ∧ D'.slots[fC.slot]? = some (.int 0) ∧ Arr .byte s.heap.size V u ∧ V.vm = .none ∧ u.vm.findClass "[B" = some V.cls ∧ V.slots.size = len ∧ (∀ j, j < len → V.slots[j]? = some (.int (lo8 (cv A (o + j))))) ∧ (∀ (y : Addr) (c : Cell), y ≠ a → s.heap[y]? = some c → u.heap[y]? = some c) ∧ u.heap.size = s.heap.size + 1
theorem Got.mv {a : Addr} {D A : Cell} {fV fC : Field} {o len : Nat} : ∀ r (U U' V V' : State), U'.heap = U.heap → V.vm.Alike V'.vm → V'.heap = V.heap → Got a D fV fC A o len r U V → Got a D fV fC A o len r U' V' :=
  fun r U U' V V' h1 hal h2 ⟨e0, D', X, a1, a2, a3, a4, a5, a6, a7, a8, a9, a10, a11⟩ => ⟨e0, D', X, a1.mv hal h2, a2, by rw [h1]; exact a3, a4, by rw [h1]; exact a5.mv hal h2, a6, by rw [hal.findClass]; exact a7, a8, a9, by rw [h1, h2]; exact a10, by rw [h1, h2]; exact a11⟩
namespace New4
def yN : MethodName := ⟨"java/lang/String", "<init>", "([CIILjava/lang/Void;)V"⟩
abbrev yB : ByteArray := jdk_42_method_149_code
theorem d0 : decode yB 0 = .ok (.aload_n 0, 1) := by decide +kernel
theorem d1 : decode yB 1 = .ok (.invokespecial 1, 3) := by decide +kernel
theorem d4 : decode yB 4 = .ok (.iload_n 3, 1) := by decide +kernel
theorem d5 : decode yB 5 = .ok (.ifCond (.ne) 22, 3) := by decide +kernel
theorem d27 : decode yB 27 = .ok (.getstatic 38, 3) := by decide +kernel
theorem d30 : decode yB 30 = .ok (.ifCond (.eq) 28, 3) := by decide +kernel
theorem d33 : decode yB 33 = .ok (.aload_n 1, 1) := by decide +kernel
theorem d34 : decode yB 34 = .ok (.iload_n 2, 1) := by decide +kernel
theorem d35 : decode yB 35 = .ok (.iload_n 3, 1) := by decide +kernel
theorem d36 : decode yB 36 = .ok (.invokestatic 177, 3) := by decide +kernel
theorem d39 : decode yB 39 = .ok (.astore 5, 2) := by decide +kernel
theorem d41 : decode yB 41 = .ok (.aload_n 0, 1) := by decide +kernel
theorem d42 : decode yB 42 = .ok (.aload 5, 2) := by decide +kernel
theorem d44 : decode yB 44 = .ok (.iload_n 3, 1) := by decide +kernel
theorem d45 : decode yB 45 = .ok (.invokestatic 47, 3) := by decide +kernel
theorem d48 : decode yB 48 = .ok (.putfield 15, 3) := by decide +kernel
theorem d51 : decode yB 51 = .ok (.aload_n 0, 1) := by decide +kernel
theorem d52 : decode yB 52 = .ok (.aload 5, 2) := by decide +kernel
theorem d54 : decode yB 54 = .ok (.putfield 9, 3) := by decide +kernel
theorem d57 : decode yB 57 = .ok (.return_, 1) := by decide +kernel
def site : List Cond := [.fieldLink "java/lang/String" 38 "java/lang/String" "COMPACT_STRINGS" "Z", Cmp3.tab, CodL.tab, .laysFinal "java/lang/String" "java/lang/String" "value" "[B", .fieldLink "java/lang/String" 9 "java/lang/String" "value" "[B", .laysFinal "java/lang/String" "java/lang/String" "coder" "B", .fieldLink "java/lang/String" 15 "java/lang/String" "coder" "B"] ++ objW "java/lang/String" 1 ++ staticW "java/lang/String" 177 Cmp3.yN ++ staticW "java/lang/String" 47 CodL.yN
def tab : Cond := tabOf yN yB 6 none site
def P (a : Addr) (D : Cell) (fV fC : Field) (b : Addr) (A : Cell) (z : Int32) (o len : Nat) (args : Array Value) (s : State) : Prop := args = #[.ref a, .ref b, .int (Int32.ofNat o), .int (Int32.ofNat len), .null] ∧ Blank "java/lang/String" a D s ∧ Found "java/lang/String" "value" "[B" fV s ∧ Found "java/lang/String" "coder" "B" fC s ∧ Ch b A s ∧ StaticIs s "java/lang/String" "COMPACT_STRINGS" "Z" (.int z) ∧ ¬ z = 0 ∧ 0 < len ∧ o + len ≤ A.slots.size ∧ len ≤ 536870912 ∧ ∀ i, i < len → ¬ 255 < cv A (o + i)
def E (a : Addr) (D : Cell) (fV fC : Field) (A : Cell) (o len : Nat) (r : Option Value) (s u : State) : Prop := Got a D fV fC A o len r s u
/-- len > 0, no char of the range above 255: a Latin-1 String of their low bytes -/
theorem law (l : Launch) (a : Addr) (D : Cell) (fV fC : Field) (b : Addr) (A : Cell) (z : Int32) (o len : Nat) : Law l yN 5 4 2 35 yB 6 none site (P a D fV fC b A z o len) (E a D fV fC A o len) [⟨a, fC.slot⟩, ⟨a, fV.slot⟩] 1 len := by
  refine Law.of_walk (plainFor_of_name (by decide +kernel)) (by decide +kernel) (by decide +kernel) (by decide) (fun _ _ h => by rw [h.1]; rfl) (fun _ U U' hal hh h => ⟨h.1, h.2.1.mv hal hh, h.2.2.1.al hal, h.2.2.2.1.al hal, h.2.2.2.2.1.mv hal hh, h.2.2.2.2.2.1.there hal hh, h.2.2.2.2.2.2⟩) (fun r U U' V V' h1 hal h2 h => Got.mv r U U' V V' h1 hal h2 h) ?_
  intro p e s m args below meth c s₁ X0 hexec hbytes hml hret hlk hnm hown hh0 W hP
  obtain ⟨rfl, hB, f1, f2, hA, s1, hz, l0, l1, l2, hp⟩ := hP
  have a31 := hA.1.2.2.2
  have c1 : Steps p.tables e below (s₁.setTop (entryFrame m #[.ref a, .ref b, .int (Int32.ofNat o), .int (Int32.ofNat len), .null] 6)) (s₁.setTop (mkF m 0 #[.val (.ref a), .val (.ref b), .val (.int (Int32.ofNat o)), .val (.int (Int32.ofNat len)), .val .null, .unset] [])) := entry rfl
  have c2 : Steps p.tables e below (s₁.setTop (entryFrame m #[.ref a, .ref b, .int (Int32.ofNat o), .int (Int32.ofNat len), .null] 6)) (s₁.setTop (mkF m 1 #[.val (.ref a), .val (.ref b), .val (.int (Int32.ofNat o)), .val (.int (Int32.ofNat len)), .val .null, .unset] [.ref a])) := c1.trans (by
    refine XS.aloadN X0.here hexec rfl (hb hbytes d0) rfl rfl ?_
    exact Steps.refl _)
  obtain ⟨T3, X3, q3, st3⟩ := X0.oinit hexec hown (wks W (objW "java/lang/String" 1)) (g := (mkF m 1 #[.val (.ref a), .val (.ref b), .val (.int (Int32.ofNat o)), .val (.int (Int32.ofNat len)), .val .null, .unset] [.ref a])) rfl (by rw [hml]; rfl) (rest := []) rfl (hb hbytes d1) (W := 0) (by show 2 * 0 + 0 ≤ _; decide) (Nat.le_of_ble_eq_true rfl) (Nat.le_of_ble_eq_true rfl)
  have hh3 := q3.trans hh0
  have c4 : Steps p.tables e below (s₁.setTop (entryFrame m #[.ref a, .ref b, .int (Int32.ofNat o), .int (Int32.ofNat len), .null] 6)) (T3.setTop (mkF m 27 #[.val (.ref a), .val (.ref b), .val (.int (Int32.ofNat o)), .val (.int (Int32.ofNat len)), .val .null, .unset] [])) := (c2.trans (st3 _ (Steps.refl _))).trans (by
    refine XS.iloadN X3.here hexec rfl (hb hbytes d4) rfl ?_
    refine XS.ifYes X3.here hexec rfl (pc0 := 5) rfl (hb hbytes d5) rfl (i0_ne_t (nz32 (by omega) l0)) (by decide) rfl ?_
    exact Steps.refl _)
  obtain ⟨T5, X5, q5, st5⟩ := X3.sget hexec hown (wk W (.fieldLink "java/lang/String" 38 "java/lang/String" "COMPACT_STRINGS" "Z")) s1 (fun _ _ h => by rw [hh3]; exact h) (g := (mkF m 27 #[.val (.ref a), .val (.ref b), .val (.int (Int32.ofNat o)), .val (.int (Int32.ofNat len)), .val .null, .unset] [])) rfl (hb hbytes d27)
  have hh5 := q5.trans hh3
  have c6 : Steps p.tables e below (s₁.setTop (entryFrame m #[.ref a, .ref b, .int (Int32.ofNat o), .int (Int32.ofNat len), .null] 6)) (T5.setTop (mkF m 30 #[.val (.ref a), .val (.ref b), .val (.int (Int32.ofNat o)), .val (.int (Int32.ofNat len)), .val .null, .unset] [.int z])) := c4.trans (st5 _ (Steps.refl _))
  have c7 : Steps p.tables e below (s₁.setTop (entryFrame m #[.ref a, .ref b, .int (Int32.ofNat o), .int (Int32.ofNat len), .null] 6)) (T5.setTop (mkF m 36 #[.val (.ref a), .val (.ref b), .val (.int (Int32.ofNat o)), .val (.int (Int32.ofNat len)), .val .null, .unset] [.int (Int32.ofNat len), .int (Int32.ofNat o), .ref b])) := c6.trans (by
    refine XS.ifNo X5.here hexec rfl (hb hbytes d30) rfl (i0_eq_f hz) ?_
    refine XS.aloadN X5.here hexec rfl (hb hbytes d33) rfl rfl ?_
    refine XS.iloadN X5.here hexec rfl (hb hbytes d34) rfl ?_
    refine XS.iloadN X5.here hexec rfl (hb hbytes d35) rfl ?_
    exact Steps.refl _)
  obtain ⟨v8, T8, X8, E8, g8⟩ := X5.callS hexec (Cmp3.law l b A o len) hown (wks W (staticW "java/lang/String" 177 Cmp3.yN)) (wk W Cmp3.tab) (W := 0) (Nat.le_of_ble_eq_true rfl) (Nat.le_of_ble_eq_true rfl) (Nat.le_refl _) (by show 0 + len ≤ len; omega) (g := (mkF m 36 #[.val (.ref a), .val (.ref b), .val (.int (Int32.ofNat o)), .val (.int (Int32.ofNat len)), .val .null, .unset] [.int (Int32.ofNat len), .int (Int32.ofNat o), .ref b])) rfl (by rw [hml]; rfl) c7 (argsL := [.ref b, .int (Int32.ofNat o), .int (Int32.ofNat len)]) (rest := []) rfl rfl (by show 2 * 0 + 0 ≤ _; decide) (hb hbytes d36) (⟨rfl, hA.mv X5.warmed.alike hh5, l1, l2, hp⟩)
  obtain ⟨e8, z8⟩ := E8
  obtain ⟨rfl, N, n1, n2, n3, n4, n5, n6⟩ := NewArr.mv _ T5 s _ _ hh5.symm (Vm.Alike.refl _) rfl e8
  rw [hh5] at z8
  have hB1 := hB.keep X8.warmed.alike (n6 _ _ hB.1)
  have hne : s.heap.size ≠ a := (Nat.ne_of_lt (Array.getElem?_eq_some_iff.mp hB.1).1).symm
  have c9 : Steps p.tables e below (s₁.setTop (entryFrame m #[.ref a, .ref b, .int (Int32.ofNat o), .int (Int32.ofNat len), .null] 6)) (T8.setTop (mkF m 39 #[.val (.ref a), .val (.ref b), .val (.int (Int32.ofNat o)), .val (.int (Int32.ofNat len)), .val .null, .unset] [.ref s.heap.size])) := g8
  have c10 : Steps p.tables e below (s₁.setTop (entryFrame m #[.ref a, .ref b, .int (Int32.ofNat o), .int (Int32.ofNat len), .null] 6)) (T8.setTop (mkF m 45 #[.val (.ref a), .val (.ref b), .val (.int (Int32.ofNat o)), .val (.int (Int32.ofNat len)), .val .null, .val (.ref s.heap.size)] [.int (Int32.ofNat N.slots.size), .ref s.heap.size, .ref a])) := by
    have hc : Steps p.tables e below (s₁.setTop (entryFrame m #[.ref a, .ref b, .int (Int32.ofNat o), .int (Int32.ofNat len), .null] 6)) (T8.setTop (mkF m 45 #[.val (.ref a), .val (.ref b), .val (.int (Int32.ofNat o)), .val (.int (Int32.ofNat len)), .val .null, .val (.ref s.heap.size)] [.int (Int32.ofNat len), .ref s.heap.size, .ref a])) := c9.trans (by
      refine XS.astore X8.here hexec rfl (hb hbytes d39) rfl rfl rfl ?_
      refine XS.aloadN X8.here hexec rfl (hb hbytes d41) rfl rfl ?_
      refine XS.aload X8.here hexec rfl (hb hbytes d42) rfl rfl ?_
      refine XS.iloadN X8.here hexec rfl (hb hbytes d44) rfl ?_
      exact Steps.refl _)
    rw [n4]; exact hc
  obtain ⟨v11, T11, X11, E11, g11⟩ := X8.callS hexec (CodL.law l s.heap.size N) hown (wks W (staticW "java/lang/String" 47 CodL.yN)) (wk W CodL.tab) (W := 1) (Nat.le_of_ble_eq_true rfl) (Nat.le_of_ble_eq_true rfl) (Nat.le_refl _) (by show 0 + len + 0 ≤ len; omega) (g := (mkF m 45 #[.val (.ref a), .val (.ref b), .val (.int (Int32.ofNat o)), .val (.int (Int32.ofNat len)), .val .null, .val (.ref s.heap.size)] [.int (Int32.ofNat N.slots.size), .ref s.heap.size, .ref a])) rfl (by rw [hml]; rfl) c10 (argsL := [.ref s.heap.size, .int (Int32.ofNat N.slots.size)]) (rest := [.ref a]) rfl rfl (by show 2 * 0 + (1 + 0) ≤ _; decide) (hb hbytes d45) (⟨rfl, n1⟩)
  obtain ⟨rfl, q11⟩ := E11
  have hB11 := hB1.mv (X8.warmed.alike.symm.trans X11.warmed.alike) q11
  have c12 : Steps p.tables e below (s₁.setTop (entryFrame m #[.ref a, .ref b, .int (Int32.ofNat o), .int (Int32.ofNat len), .null] 6)) (T11.setTop (mkF m 48 #[.val (.ref a), .val (.ref b), .val (.int (Int32.ofNat o)), .val (.int (Int32.ofNat len)), .val .null, .val (.ref s.heap.size)] [.int 0, .ref a])) := g11
  obtain ⟨T13, X13, p13, bl13, sl13, st13⟩ := X11.finit hexec hown (wk W (.fieldLink "java/lang/String" 15 "java/lang/String" "coder" "B")) (Or.inr ⟨_, (wk W (.laysFinal "java/lang/String" "java/lang/String" "coder" "B"))⟩) (Or.inl ⟨rfl, hnm⟩) f2 (Or.inl rfl) hB11 (t := .byte) (by decide +kernel) rfl (g := (mkF m 48 #[.val (.ref a), .val (.ref b), .val (.int (Int32.ofNat o)), .val (.int (Int32.ofNat len)), .val .null, .val (.ref s.heap.size)] [.int 0, .ref a])) rfl (rest := []) rfl (hb hbytes d48)
  have c14 : Steps p.tables e below (s₁.setTop (entryFrame m #[.ref a, .ref b, .int (Int32.ofNat o), .int (Int32.ofNat len), .null] 6)) (T13.setTop (mkF m 54 #[.val (.ref a), .val (.ref b), .val (.int (Int32.ofNat o)), .val (.int (Int32.ofNat len)), .val .null, .val (.ref s.heap.size)] [.ref s.heap.size, .ref a])) := (c12.trans (st13 _ (Steps.refl _))).trans (by
    refine XS.aloadN X13.here hexec rfl (hb hbytes d51) rfl rfl ?_
    refine XS.aload X13.here hexec rfl (hb hbytes d52) rfl rfl ?_
    exact Steps.refl _)
  obtain ⟨T15, X15, p15, bl15, sl15, st15⟩ := X13.finit hexec hown (wk W (.fieldLink "java/lang/String" 9 "java/lang/String" "value" "[B")) (Or.inr ⟨_, (wk W (.laysFinal "java/lang/String" "java/lang/String" "value" "[B"))⟩) (Or.inl ⟨rfl, hnm⟩) f1 (Or.inl rfl) bl13 (t := (.array .byte)) (by decide +kernel) rfl (g := (mkF m 54 #[.val (.ref a), .val (.ref b), .val (.int (Int32.ofNat o)), .val (.int (Int32.ofNat len)), .val .null, .val (.ref s.heap.size)] [.ref s.heap.size, .ref a])) rfl (rest := []) rfl (hb hbytes d54)
  have c16 : Steps p.tables e below (s₁.setTop (entryFrame m #[.ref a, .ref b, .int (Int32.ofNat o), .int (Int32.ofNat len), .null] 6)) (T15.setTop (mkF m 57 #[.val (.ref a), .val (.ref b), .val (.int (Int32.ofNat o)), .val (.int (Int32.ofNat len)), .val .null, .val (.ref s.heap.size)] [])) := c14.trans (st15 _ (Steps.refl _))
  have ap := apart (Or.inr ⟨_, (wk W (.laysFinal "java/lang/String" "java/lang/String" "value" "[B"))⟩) (Or.inr ⟨_, (wk W (.laysFinal "java/lang/String" "java/lang/String" "coder" "B"))⟩) f1 f2 (t₁ := .array .byte) (t₂ := .byte) (by decide +kernel) (by decide +kernel) (by decide)
  have al := X8.warmed.alike.symm.trans X15.warmed.alike
  have n7 : T11.heap[s.heap.size]? = some N := by rw [q11]; exact n1.1
  exact ⟨T15, none, _, _, _, X15, by simp, rfl, by omega, (fun _ => rfl), ⟨rfl, _, N, bl15, ((Same.refl D _).set _ (by simp)).set _ (by simp), sl15, (Cell.slots_setSlot_ne _ ap).trans sl13, n1.keep al (p15.other hne (p13.other hne n7)), n2, by rw [al.findClass]; exact n3, n4, n5, fun y c h1 h2 => p15.other h1 (p13.other h1 (by rw [q11]; exact n6 y c h2)), by rw [p15.2.2, p13.2.2, q11]; exact z8⟩, fun fs hl => c16.trans (X15.returnOut hexec hret (hb hbytes d57) hl)⟩
end New4
namespace New1
def yN : MethodName := ⟨"java/lang/String", "<init>", "([C)V"⟩
abbrev yB : ByteArray := jdk_42_method_3_code
theorem d0 : decode yB 0 = .ok (.aload_n 0, 1) := by decide +kernel
theorem d1 : decode yB 1 = .ok (.aload_n 1, 1) := by decide +kernel
theorem d2 : decode yB 2 = .ok (.iconst 0, 1) := by decide +kernel
theorem d3 : decode yB 3 = .ok (.aload_n 1, 1) := by decide +kernel
theorem d4 : decode yB 4 = .ok (.arraylength, 1) := by decide +kernel
theorem d5 : decode yB 5 = .ok (.aconst_null, 1) := by decide +kernel
theorem d6 : decode yB 6 = .ok (.invokespecial 27, 3) := by decide +kernel
theorem d9 : decode yB 9 = .ok (.return_, 1) := by decide +kernel
def site : List Cond := [New4.tab] ++ initW "java/lang/String" 27 New4.yN
def tab : Cond := tabOf yN yB 2 none site
def P (a : Addr) (D : Cell) (fV fC : Field) (b : Addr) (A : Cell) (z : Int32) (args : Array Value) (s : State) : Prop := args = #[.ref a, .ref b] ∧ Blank "java/lang/String" a D s ∧ Found "java/lang/String" "value" "[B" fV s ∧ Found "java/lang/String" "coder" "B" fC s ∧ Ch b A s ∧ StaticIs s "java/lang/String" "COMPACT_STRINGS" "Z" (.int z) ∧ ¬ z = 0 ∧ 0 < A.slots.size ∧ A.slots.size ≤ 536870912 ∧ ∀ i, i < A.slots.size → ¬ 255 < cv A i
def E (a : Addr) (D : Cell) (fV fC : Field) (A : Cell) (r : Option Value) (s u : State) : Prop := Got a D fV fC A 0 A.slots.size r s u
/-- new String(chars), not empty, no char above 255: a Latin-1 String of their low bytes -/
theorem law (l : Launch) (a : Addr) (D : Cell) (fV fC : Field) (b : Addr) (A : Cell) (z : Int32) : Law l yN 2 1 3 52 yB 2 none site (P a D fV fC b A z) (E a D fV fC A) [⟨a, fC.slot⟩, ⟨a, fV.slot⟩] 1 A.slots.size := by
  refine Law.of_walk (plainFor_of_name (by decide +kernel)) (by decide +kernel) (by decide +kernel) (by decide) (fun _ _ h => by rw [h.1]; rfl) (fun _ U U' hal hh h => ⟨h.1, h.2.1.mv hal hh, h.2.2.1.al hal, h.2.2.2.1.al hal, h.2.2.2.2.1.mv hal hh, h.2.2.2.2.2.1.there hal hh, h.2.2.2.2.2.2⟩) (fun r U U' V V' h1 hal h2 h => Got.mv r U U' V V' h1 hal h2 h) ?_
  intro p e s m args below meth c s₁ X0 hexec hbytes hml hret hlk hnm hown hh0 W hP
  obtain ⟨rfl, hB, f1, f2, hA, s1, hz, l0, l2, hp⟩ := hP
  have c1 : Steps p.tables e below (s₁.setTop (entryFrame m #[.ref a, .ref b] 2)) (s₁.setTop (mkF m 0 #[.val (.ref a), .val (.ref b)] [])) := entry rfl
  have c2 : Steps p.tables e below (s₁.setTop (entryFrame m #[.ref a, .ref b] 2)) (s₁.setTop (mkF m 6 #[.val (.ref a), .val (.ref b)] [.null, .int (Int32.ofNat A.slots.size), .int 0, .ref b, .ref a])) := c1.trans (by
    refine XS.aloadN X0.here hexec rfl (hb hbytes d0) rfl rfl ?_
    refine XS.aloadN X0.here hexec rfl (hb hbytes d1) rfl rfl ?_
    refine iconstV X0.here hexec rfl 0 (hb hbytes d2) (by decide) ?_
    refine XS.aloadN X0.here hexec rfl (hb hbytes d3) rfl rfl ?_
    refine X0.alen hexec (hA.1.mv X0.warmed.alike hh0) rfl rfl (hb hbytes d4) ?_
    refine XS.aconstNull X0.here hexec rfl (hb hbytes d5) ?_
    exact Steps.refl _)
  obtain ⟨v3, T3, X3, E3, g3⟩ := X0.callN hexec (New4.law l a D fV fC b A z 0 A.slots.size) rfl hown (wks W (initW "java/lang/String" 27 New4.yN)) (W New4.tab (by simp only [site, List.mem_cons, List.mem_append, true_or, or_true])) (W := 0) (Nat.le_of_ble_eq_true rfl) (Nat.le_of_ble_eq_true rfl) (Nat.le_refl _) (by show 0 + A.slots.size ≤ A.slots.size; omega) (g := (mkF m 6 #[.val (.ref a), .val (.ref b)] [.null, .int (Int32.ofNat A.slots.size), .int (Int32.ofNat 0), .ref b, .ref a])) rfl (by rw [hml]; rfl) c2 (argsL := [.ref b, .int (Int32.ofNat 0), .int (Int32.ofNat A.slots.size), .null]) (rest := []) rfl rfl (by show 2 * 0 + 0 ≤ _; decide) (hb hbytes d6) (⟨rfl, hB.mv X0.warmed.alike hh0, f1.al X0.warmed.alike, f2.al X0.warmed.alike, hA.mv X0.warmed.alike hh0, s1.there X0.warmed.alike hh0, hz, l0, by omega, l2, fun i hi => by rw [Nat.zero_add]; exact hp i hi⟩)
  have e0 := Got.mv _ s₁ s _ _ hh0.symm (Vm.Alike.refl _) rfl E3
  obtain rfl := e0.1
  have c4 : Steps p.tables e below (s₁.setTop (entryFrame m #[.ref a, .ref b] 2)) (T3.setTop (mkF m 9 #[.val (.ref a), .val (.ref b)] [])) := g3
  exact ⟨T3, none, _, _, _, X3, by simp, rfl, by omega, (fun _ => rfl), e0, fun fs hl => c4.trans (X3.returnOut hexec hret (hb hbytes d9) hl)⟩
theorem pays {l : Launch} {R : Room} {p : Program} {e : Env} {below : List Frame} {s : State} {sargs : Array Value} {len W : Nat} (a : Addr) (D : Cell) (fV fC : Field) (b : Addr) (A : Cell) (z : Int32) (htab : tab.before sargs s = true) (hfr : 4 ≤ R.frames) (hlo : W + 65 ≤ R.locals) :
    Back l R p e below s sargs yN len W (fun A₁ a₁ => A₁.cells + 1 ≤ R.cells ∧ A₁.slots + A.slots.size ≤ R.slots ∧ P a D fV fC b A z a₁ A₁.U) (fun A₁ _ v₁ B₁ => E a D fV fC A v₁ A₁.U B₁.U ∧ B₁.locs = A₁.locs ++ [⟨a, fC.slot⟩, ⟨a, fV.slot⟩] ∧ B₁.cells = A₁.cells + 1 ∧ B₁.slots = A₁.slots + A.slots.size) :=
  (law l a D fV fC b A z).pays htab hfr (by omega)
end New1
/-- the byte, read back as charAt reads it, is the char -/
theorem lo8_mask {x : Int32} (h0 : ¬ x < 0) (h1 : ¬ 255 < x) : lo8 x &&& 255 = x := by
  have t : ∀ k : Fin 256, lo8 (Int32.ofNat k.val) &&& 255 = Int32.ofNat k.val := by decide +kernel
  rw [Int32.lt_iff_toInt_lt] at h0 h1
  have e0 : (0 : Int32).toInt = 0 := rfl
  have e1 : (255 : Int32).toInt = 255 := rfl
  obtain ⟨k, hk⟩ : ∃ k : Nat, x.toInt = k := ⟨x.toInt.toNat, by omega⟩
  have hx : x = Int32.ofNat k := Int32.toInt_inj.mp (by rw [hk, Int32.toInt_ofNat_small (by omega)])
  rw [hx]
  exact t ⟨k, by omega⟩
end StrChars
namespace StrChars.Road
open Jvm Sem ClassFile Op Lib Jvm.Stand Jvm.Free Jvm.Free.XT
open Jvm.Lib.Cold (StaticIs)
abbrev ST : String := "java/lang/String"
/-- every table word that New1's law asks, flat -/
abbrev words : List Jvm.Cond := [.code New1.yN New1.yB 2 none, .initialized ST, .methodLink ST 27 New4.yN, .instanceMethod New4.yN,
  .code New4.yN New4.yB 6 none, .fieldLink ST 38 ST "COMPACT_STRINGS" "Z", .laysFinal ST ST "value" "[B", .fieldLink ST 9 ST "value" "[B", .laysFinal ST ST "coder" "B", .fieldLink ST 15 ST "coder" "B",
  .methodLink ST 1 Lib.objectInit, .instanceMethod Lib.objectInit, .code Lib.objectInit ⟨#[0xb1]⟩ 1 none, .methodLink ST 177 Cmp3.yN, .static Cmp3.yN, .methodLink ST 47 CodL.yN, .static CodL.yN,
  .code Cmp3.yN Cmp3.yB 6 (some (.array .byte)), .initialized U16, .arrayClass .byte, .methodLink U16 115 Cmp5.yN, .static Cmp5.yN, .code Cmp5.yN Cmp5.yB 7 (some .int), .code CodL.yN CodL.yB 2 (some .byte)]
theorem tab_of {a : Array Value} {s : State} (h : ∀ w ∈ words, w.before a s = true) : New1.tab.before a s = true := by
  have h5 : Cmp5.tab.before a s = true := unparts (wk h (.code Cmp5.yN Cmp5.yB 7 (some .int))) (wks h (.initialized Cmp5.yN.cls :: Cmp5.site))
  have hc : CodL.tab.before a s = true := unparts (wk h (.code CodL.yN CodL.yB 2 (some .byte))) (wks h (.initialized CodL.yN.cls :: CodL.site))
  have q5 : ∀ w ∈ Cmp5.tab :: words, w.before a s = true := fun w hw => (List.mem_cons.mp hw).elim (fun e => e ▸ h5) (h w)
  have h3 : Cmp3.tab.before a s = true := unparts (wk q5 (.code Cmp3.yN Cmp3.yB 6 (some (.array .byte)))) (wks q5 (.initialized Cmp3.yN.cls :: Cmp3.site))
  have q3 : ∀ w ∈ Cmp3.tab :: CodL.tab :: words, w.before a s = true := fun w hw => (List.mem_cons.mp hw).elim (fun e => e ▸ h3) fun hw => (List.mem_cons.mp hw).elim (fun e => e ▸ hc) (h w)
  have h4 : New4.tab.before a s = true := unparts (wk q3 (.code New4.yN New4.yB 6 none)) (wks q3 (.initialized New4.yN.cls :: New4.site))
  have q4 : ∀ w ∈ New4.tab :: words, w.before a s = true := fun w hw => (List.mem_cons.mp hw).elim (fun e => e ▸ h4) (h w)
  exact unparts (wk q4 (.code New1.yN New1.yB 2 none)) (wks q4 (.initialized New1.yN.cls :: New1.site))
/-- the words ride from the start Z to the walk's own state -/
theorem moved {Z s : State} {a0 args : Array Value} (hZ : Z.Warmed39 s.vm) (hw : ∀ d ∈ words, d.before a0 Z = true) : ∀ d ∈ words, d.before args s = true := fun d hd => by
  have q := hw d hd
  have t : ∀ d ∈ words, d = .arrayClass .byte ∨ (d.onTables && d.keepsFace) = true := by decide +kernel
  rcases t d hd with rfl | t
  · exact RoadKit.mvA hZ q
  · exact RoadKit.mv hZ q t
/-- WHAT COMES BACK, over the tables of the start Z: h the heap at the call, h' behind it -/
def Q (Z : State) (x : Addr) (A : Cell) (h : Heap) (v : Option Value) (h' : Heap) (L : List Loc) : Prop := v = none ∧ (∀ y ∈ L, y.base = x) ∧ RoadKit.Keep h h' [x] ∧ h'.size = h.size + 1 ∧ RoadKit.Exa Z h' x ST ∧ RoadKit.Fld Z h' x ST "value" "[B" (.ref h.size) ∧ RoadKit.Fld Z h' x ST "coder" "B" (.int 0) ∧
  (∃ V : Cell, RoadKit.Arr Z h' h.size V .byte ∧ V.vm = .none ∧ Z.vm.findClass "[B" = some V.cls ∧ V.slots.size = A.slots.size ∧ ∀ j, j < A.slots.size → V.slots[j]? = some (.int (lo8 (cv A j)))) ∧
  ∀ (O n d : String) (w : Value), RoadKit.Fld Z h x O n d w → RoadKit.slotOf Z O n d ≠ RoadKit.slotOf Z ST "value" "[B" → RoadKit.slotOf Z O n d ≠ RoadKit.slotOf Z ST "coder" "B" → RoadKit.Fld Z h' x O n d w
/-- **new String(chars) AT A CALL, IN THE ROAD'S FORM**: for specialBack behind newO: x the fresh String, b the char[] with the cell A -/
theorem back {p : Program} {l : Launch} {e : Env} {R : Room} {s : State} {args : Array Value} {below : List Frame} {len W : Nat} {Z : State} {a0 : Array Value} {h : Heap} (hZ : Z.Warmed39 s.vm) (hw : ∀ d ∈ words, d.before a0 Z = true) {kI : Nat} (wi : (Jvm.Cond.instantiable ST kI).before a0 Z = true)
    {x b : Addr} {A : Cell} {z : Int32} {v0 c0 : Value} (E : RoadKit.Exa Z h x ST) (V : RoadKit.Fld Z h x ST "value" "[B" v0) (C : RoadKit.Fld Z h x ST "coder" "B" c0) (K : RoadKit.Arr Z h b A .char) (hty : Typed .char A) (S : RoadKit.Sta Z h ST "COMPACT_STRINGS" "Z" (.int z)) (hz : ¬ z = 0)
    (l0 : 0 < A.slots.size) (l2 : A.slots.size ≤ 536870912) (hp : ∀ i, i < A.slots.size → ¬ 255 < cv A i) (hfr : 4 ≤ R.frames) (hlo : W + 65 ≤ R.locals) :
    Back l R p e below s args New1.yN len W (fun P a => a = #[.ref x, .ref b] ∧ P.U.heap = h ∧ P.cells + 1 ≤ R.cells ∧ P.slots + A.slots.size ≤ R.slots)
      (fun P _ v B => ∃ L, Q Z x A h v B.U.heap L ∧ B.locs = P.locs ++ L ∧ B.cells = P.cells + 1 ∧ B.slots = P.slots + A.slots.size) := by
  intro m meth c P g ig mk a X hg hsize hdg hW hn hp'
  obtain ⟨rfl, rfl, r1, r2⟩ := hp'
  have al : Z.vm.Alike P.U.vm := hZ.alike.trans X.warmed.alike
  obtain ⟨D, cfV, kV, iV, fV, hD, gV, stV, knV, obV, asV, slV⟩ := id V
  obtain ⟨D', cfC, kC, iC, fC, hD', gC, stC, -, -, asC, slC⟩ := id C
  cases hD.symm.trans hD'
  obtain ⟨D2, kD, e1, e2, e3, e4, e5⟩ := id E
  cases hD.symm.trans e1
  obtain ⟨c2, k2, i1, i2, i3, -⟩ := Cond.instantiable_spec wi
  cases e2.symm.trans i1
  cases e3.symm.trans i2
  obtain ⟨kU, u1, u2⟩ := al.2.2 _ _ e3
  have hB : Blank ST x D P.U := ⟨hD, ⟨knV, fun q hq => by rw [hq] at obV; cases obV⟩, by rw [al.findClass]; exact e2, kU, u1, by rw [u2]; exact i3, by rw [u2]; exact e5 i3⟩
  have F1 : Found ST "value" "[B" fV P.U := ⟨SBG.found_only al ⟨cfV, kV, iV, gV⟩, stV⟩
  have F2 : Found ST "coder" "B" fC P.U := ⟨SBG.found_only al ⟨cfC, kC, iC, gC⟩, stC⟩
  have hA : Ch b A P.U := ⟨⟨K.1, State.isArrayOf_alike al K.2.1, K.2.2, by omega⟩, hty⟩
  have hS : StaticIs P.U ST "COMPACT_STRINGS" "Z" (.int z) := by
    obtain ⟨cfS, iS, kS, fS, st, cS, t1, t2, t3, t4, t5, t6, t7⟩ := S
    exact StaticIs.there (s := { Z with heap := P.U.heap }) ⟨cfS, iS, kS, fS, st, cS, t1, t2, t3, t4, t5, (fun q => by rw [q] at t6; cases t6), t7⟩ al rfl
  obtain ⟨v, B, X', ⟨⟨hv, E', V', q1, q2, q3, q4, q5, q6, q7, q8, q9, q10, q11⟩, hl, hc, hs⟩, st⟩ := New1.pays x D fV fC b A z (tab_of (moved hZ hw)) hfr hlo m meth c P g ig mk _ X hg hsize hdg hW hn ⟨r1, r2, rfl, hB, F1, F2, hA, hS, hz, l0, l2, hp⟩
  have al' : Z.vm.Alike B.U.vm := hZ.alike.trans X'.warmed.alike
  have hsz : E'.slots.size = D.slots.size := by
    obtain ⟨-, -, -, kB, w1, w2, w3⟩ := q1
    obtain ⟨kB', y1, y2⟩ := al'.2.2 _ _ e3
    rw [q2.2.1] at w1
    cases w1.symm.trans y1
    rw [w3, e5 i3, y2]
  refine ⟨v, B, X', ⟨_, ⟨hv, ?_, ⟨by omega, fun y cy hy hn' => q10 y cy (by simpa using hn') hy, fun y cy hy => ?_⟩, q11, ⟨E', _, q1.1, by rw [q2.2.1]; exact e2, by rw [q2.2.1]; exact e3, by rw [q2.1]; exact obV, fun _ => by rw [hsz]; exact e5 i3⟩,
    ⟨E', cfV, kV, iV, fV, q1.1, gV, stV, by rw [q2.1]; exact knV, by rw [q2.1]; exact obV, by rw [q2.2.1]; exact asV, q3⟩, ⟨E', cfC, kC, iC, fC, q1.1, gC, stC, by rw [q2.1]; exact knV, by rw [q2.1]; exact obV, by rw [q2.2.1]; exact asC, q4⟩,
    ⟨V', ⟨q5.1, State.isArrayOf_alike al'.symm q5.2.1, q5.2.2.1⟩, q6, by rw [← al'.findClass]; exact q7, q8, fun j hj => by have := q9 j hj; rwa [Nat.zero_add] at this⟩, fun O n d w F n1 n2 => ?_⟩, hl, hc, hs⟩, st⟩
  · intro y hy
    simp only [List.mem_cons, List.not_mem_nil, or_false] at hy
    rcases hy with rfl | rfl <;> rfl
  · by_cases q : y = x
    · subst q
      cases hD.symm.trans hy
      exact ⟨E', q1.1, q2.2.1, q2.1, hsz⟩
    · exact ⟨cy, q10 y cy q hy, rfl, rfl, rfl⟩
  · obtain ⟨D3, cf, k, i, f, g1, g2, g3, g4, g5, g6, g7⟩ := F
    cases hD.symm.trans g1
    simp only [RoadKit.slotOf, g2, gV, gC, Option.map_some, Option.getD_some] at n1 n2
    exact ⟨E', cf, k, i, f, q1.1, g2, g3, by rw [q2.1]; exact g4, by rw [q2.1]; exact g5, by rw [q2.2.1]; exact g6, by rw [q2.2.2 f.slot (by simp [n1, n2])]; exact g7⟩
end StrChars.Road
namespace StrChars.Road
open Jvm Sem ClassFile Op Lib Jvm.Stand Jvm.Free Jvm.Free.XT
/-- WHAT COMES BACK, the byte[] as a list of values -/
def QA (Z : State) (x : Addr) (zn : Int32) (cs : List Int32) (h : Heap) (v : Option Value) (h' : Heap) (L : List Loc) : Prop := v = none ∧ (∀ y ∈ L, y.base = x) ∧ RoadKit.Keep h h' [x] ∧ h'.size = h.size + 1 ∧ RoadKit.Exa Z h' x ST ∧ RoadKit.Fld Z h' x ST "value" "[B" (.ref h.size) ∧ RoadKit.Fld Z h' x ST "coder" "B" (.int 0) ∧
  (∃ kb, Z.vm.findClass "[B" = some kb ∧ RoadKit.Arv Z h' h.size kb .byte zn (cs.map fun c => .int (lo8 c)) (.int 0)) ∧
  ∀ (O n d : String) (w : Value), RoadKit.Fld Z h x O n d w → RoadKit.slotOf Z O n d ≠ RoadKit.slotOf Z ST "value" "[B" → RoadKit.slotOf Z O n d ≠ RoadKit.slotOf Z ST "coder" "B" → RoadKit.Fld Z h' x O n d w
/-- **new String(chars) AT A CALL, THE ARRAYS AS LISTS**: the char[] at b holds cs, not empty, no char above 255 -/
theorem backArv {p : Program} {l : Launch} {e : Env} {R : Room} {s : State} {args : Array Value} {below : List Frame} {len W : Nat} {Z : State} {a0 : Array Value} {h : Heap} (hZ : Z.Warmed39 s.vm) (hw : ∀ d ∈ words, d.before a0 Z = true) {kI : Nat} (wi : (Jvm.Cond.instantiable ST kI).before a0 Z = true)
    {x b : Addr} {k : ClassId} {zn z : Int32} {cs : List Int32} {dv v0 c0 : Value} (E : RoadKit.Exa Z h x ST) (V : RoadKit.Fld Z h x ST "value" "[B" v0) (C : RoadKit.Fld Z h x ST "coder" "B" c0) (K : RoadKit.Arv Z h b k .char zn (cs.map Value.int) dv) (S : RoadKit.Sta Z h ST "COMPACT_STRINGS" "Z" (.int z)) (hz : ¬ z = 0)
    (hlen : zn.toNatClampNeg = cs.length) (h0 : 0 < cs.length) (hbig : cs.length ≤ 536870912) (hall : ∀ c ∈ cs, ¬ 255 < c) (hfr : 4 ≤ R.frames) (hlo : W + 65 ≤ R.locals) :
    Back l R p e below s args New1.yN len W (fun P a => a = #[.ref x, .ref b] ∧ P.U.heap = h ∧ P.cells + 1 ≤ R.cells ∧ P.slots + cs.length ≤ R.slots)
      (fun P _ v B => ∃ L, QA Z x zn cs h v B.U.heap L ∧ B.locs = P.locs ++ L ∧ B.cells = P.cells + 1 ∧ B.slots = P.slots + cs.length) := by
  obtain ⟨A, K1, K2, K3, K4, K5, K6⟩ := K
  have e : A.slots.size = cs.length := K3.trans hlen
  have hat : ∀ (i : Nat) (hi : i < cs.length), A.slots[i]? = some (.int cs[i]) := fun i hi => by rw [K5 i (by omega)]; simp [List.getD_eq_getElem?_getD, hi]
  have hcv : ∀ (i : Nat) (hi : i < cs.length), cv A i = cs[i] := fun i hi => by unfold cv; rw [hat i hi]
  have hty : Typed .char A := fun i v hv => by
    have hi : i < A.slots.size := (Array.getElem?_eq_some_iff.mp hv).1
    have q := K5 i hi
    rw [hv] at q
    rw [Option.some.inj q]
    exact K6 i hi
  refine Back.mono (back hZ hw wi E V C K1 hty S hz (by omega) (by omega) (fun i hi => by rw [hcv i (by omega)]; exact hall _ (List.getElem_mem _)) hfr hlo) (fun P a hp => ⟨hp.1, hp.2.1, hp.2.2.1, by rw [e]; exact hp.2.2.2⟩) (fun P a v B hp hq => ?_)
  obtain ⟨L, ⟨q1, q2, q3, q4, q5, q6, q7, ⟨V', v1, v2, v3, v4, v5⟩, q9⟩, hl, hc, hs⟩ := hq
  refine ⟨L, ⟨q1, q2, q3, q4, q5, q6, q7, ⟨V'.cls, v3, V', v1, rfl, by rw [v4, e, hlen], K4, fun i hi => ?_, fun i hi => ?_⟩, q9⟩, hl, hc, by rw [hs, e]⟩
  · have hi' : i < cs.length := by omega
    rw [v5 i (by omega), hcv i hi']; simp [List.getD_eq_getElem?_getD, hi']
  · have hi' : i < cs.length := by omega
    simp only [List.getD_eq_getElem?_getD, List.getElem?_map, List.getElem?_eq_getElem hi', Option.map_some, Option.getD_some]
    exact fits_lo8 _
end StrChars.Road
namespace StrChars.Road
open Jvm Sem ClassFile Op Lib Jvm.Stand Jvm.Free Jvm.Free.XT
/-- WHAT COMES BACK, in the writer's own shape -/
def QV (Z : State) (x : Addr) (N : Int32) (bs : List Int32) (h : Heap) (n0 : Nat) (v : Option Value) (h' : Heap) (L : List Loc) : Prop := v = none ∧ RoadKit.Fr n0 L ∧ RoadKit.Keep h h' [x] ∧ RoadKit.Exa Z h' x ST ∧ RoadKit.Fld Z h' x ST "coder" "B" (.int 0) ∧
  ∃ (t : Addr) (kb : ClassId), n0 ≤ t ∧ h.size ≤ t ∧ ¬ t = x ∧ RoadKit.Fld Z h' x ST "value" "[B" (.ref t) ∧ RoadKit.Arv Z h' t kb .byte N (bs.map Value.int) (.int 0)
/-- **new String(chars) AT A CALL, FOR THE WRITER**: a char[] of n known ints, each 0 to 255 -/
theorem backV {p : Program} {l : Launch} {e : Env} {R : Room} {s : State} {args : Array Value} {below : List Frame} {len W : Nat} {Z : State} {a0 : Array Value} {h : Heap} (hZ : Z.Warmed39 s.vm) (hw : ∀ d ∈ words, d.before a0 Z = true) {kI : Nat} (wi : (Jvm.Cond.instantiable ST kI).before a0 Z = true)
    {x b : Addr} {kC : ClassId} {cs bs : List Int32} {d v0 c0 : Value} {z N : Int32} {n n0 : Nat} (hx0 : n0 ≤ x) (hh0 : n0 ≤ h.size) (E : RoadKit.Exa Z h x ST) (V : RoadKit.Fld Z h x ST "value" "[B" v0) (C : RoadKit.Fld Z h x ST "coder" "B" c0) (K : RoadKit.Arv Z h b kC .char N (cs.map Value.int) d) (S : RoadKit.Sta Z h ST "COMPACT_STRINGS" "Z" (.int z)) (hz : ¬ z = 0)
    (hn : cs.length = n) (hN : N = Int32.ofNat n) (l0 : 0 < n) (l2 : n ≤ 4000) (hp : ∀ c ∈ cs, ¬ c < 0 ∧ ¬ (255 : Int32) < c) (hb : bs = cs.map (fun c => c.toInt8.toInt32)) (hfr : 4 ≤ R.frames) (hlo : W + 65 ≤ R.locals) :
    Back l R p e below s args (⟨"java/lang/String", "<init>", "([C)V"⟩ : MethodName) len W (fun P a => a = #[.ref x, .ref b] ∧ P.U.heap = h ∧ P.cells + 1 ≤ R.cells ∧ P.slots + n ≤ R.slots)
      (fun P _ v B => ∃ L, QV Z x N bs h n0 v B.U.heap L ∧ B.locs = P.locs ++ L ∧ B.cells = P.cells + 1 ∧ B.slots = P.slots + n) := by
  subst hn hN hb
  refine Back.mono (backArv hZ hw wi E V C K S hz (n32 (by omega)) l0 (by omega) (fun c hc => (hp c hc).2) hfr hlo) (fun P a hp => hp) (fun P a v B hp hq => ?_)
  obtain ⟨L, ⟨q1, q2, q3, q4, q5, q6, q7, ⟨kb, v1, v2⟩, q9⟩, hl, hc, hs⟩ := hq
  exact ⟨L, ⟨q1, fun y hy => by rw [q2 y hy]; exact hx0, q3, q5, q7, h.size, kb, hh0, Nat.le_refl _, Nat.ne_of_gt E.lt, q6, by rw [List.map_map]; exact v2⟩, hl, hc, hs⟩
end StrChars.Road
namespace StrChars
open Jvm Sem ClassFile Op Lib Jvm.Stand Jvm.Free.XT Jvm.Free.ALB Jvm.Free.JM Jvm.Free
open Jvm.Lib.Cold (StaticIs)
def hi8 (x : Int32) : Int32 := lo8 (x >>> ((8 : Int32) &&& 31))
/-- what StringUTF16.getChar makes of two bytes -/
def pairCh (u v : Int32) : Int32 := (((u &&& 255) <<< ((0 : Int32) &&& 31)) ||| ((v &&& 255) <<< ((8 : Int32) &&& 31))).toUInt32.toUInt16.toUInt32.toInt32
theorem shr0 (c : Int32) : c >>> ((0 : Int32) &&& 31) = c := by
  have e : ((0 : Int32) &&& 31) = 0 := by decide
  rw [e]
  apply Int32.toBitVec_inj.mp
  rw [Int32.toBitVec_shiftRight]
  have e1 : ((0 : Int32).toBitVec.smod 32) = 0#32 := by decide
  rw [e1, BitVec.sshiftRight_eq']
  exact BitVec.sshiftRight_zero
theorem lo8_and (x : Int32) : (lo8 x &&& 255).toBitVec.toNat = x.toBitVec.toNat % 256 := by
  have h : (lo8 x).toBitVec = (x.toBitVec.signExtend 8).signExtend 32 := by rw [lo8, Int8.toBitVec_toInt32, Int32.toBitVec_toInt8]
  rw [Int32.toBitVec_and, BitVec.toNat_and, h]
  have e : ((x.toBitVec.signExtend 8).signExtend 32).toNat % 256 = x.toBitVec.toNat % 256 := by
    rw [BitVec.toNat_signExtend]
    have hlt := x.toBitVec.isLt
    simp only [BitVec.toNat_setWidth, BitVec.toNat_signExtend]
    split <;> split <;> omega
  rw [← e]
  exact Nat.and_two_pow_sub_one_eq_mod _ 8
theorem pair_says {c : Int32} (h0 : ¬ c < 0) (h1 : ¬ 65535 < c) : pairCh (lo8 c) (hi8 c) = c := by
  rw [Int32.lt_iff_toInt_lt] at h0 h1
  have e0 : (0 : Int32).toInt = 0 := rfl
  have e1 : (65535 : Int32).toInt = 65535 := rfl
  have hc : c.toInt = c.toBitVec.toNat := by
    have := c.toBitVec.isLt
    have e : c.toInt = c.toBitVec.toInt := rfl
    rw [e] at h0 h1
    rw [e]
    rw [BitVec.toInt_eq_toNat_cond] at h0 h1 ⊢
    split at h0 <;> split <;> omega
  have hn : c.toBitVec.toNat < 65536 := by omega
  have a1 := lo8_and c
  have a2 : (hi8 c &&& 255).toBitVec.toNat = c.toBitVec.toNat / 256 := by
    rw [hi8, lo8_and]
    have e : ((8 : Int32) &&& 31) = 8 := by decide
    rw [e, Int32.toBitVec_shiftRight]
    have e2 : ((8 : Int32).toBitVec.smod 32) = 8#32 := by decide
    rw [e2, BitVec.sshiftRight_eq', BitVec.toNat_sshiftRight_of_msb_false (by rw [BitVec.msb_eq_false_iff_two_mul_lt]; omega)]
    show c.toBitVec.toNat >>> 8 % 256 = _
    rw [Nat.shiftRight_eq_div_pow]
    omega
  unfold pairCh
  apply Int32.toBitVec_inj.mp
  apply BitVec.eq_of_toNat_eq
  have f0 : ((0 : Int32) &&& 31) = 0 := by decide
  have f8 : ((8 : Int32) &&& 31) = 8 := by decide
  rw [f0, f8]
  have g : (((lo8 c &&& 255) <<< (0 : Int32)) ||| ((hi8 c &&& 255) <<< (8 : Int32))).toBitVec.toNat = c.toBitVec.toNat := by
    rw [Int32.toBitVec_or, Int32.toBitVec_shiftLeft, Int32.toBitVec_shiftLeft]
    have s0 : ((0 : Int32).toBitVec.smod 32) = 0#32 := by decide
    have s8 : ((8 : Int32).toBitVec.smod 32) = 8#32 := by decide
    rw [s0, s8, BitVec.toNat_or]
    simp only [BitVec.shiftLeft_eq', BitVec.toNat_shiftLeft, a1, a2]
    show (c.toBitVec.toNat % 256) <<< 0 % 2 ^ 32 ||| (c.toBitVec.toNat / 256) <<< 8 % 2 ^ 32 = _
    rw [Nat.shiftLeft_zero, Nat.mod_eq_of_lt (show c.toBitVec.toNat % 256 < 2 ^ 32 by omega), Nat.mod_eq_of_lt (show (c.toBitVec.toNat / 256) <<< 8 < 2 ^ 32 by rw [Nat.shiftLeft_eq]; omega), Nat.or_comm, ← Nat.shiftLeft_add_eq_or_of_lt (by omega), Nat.shiftLeft_eq]
    omega
  show BitVec.toNat (((((lo8 c &&& 255) <<< (0 : Int32)) ||| ((hi8 c &&& 255) <<< (8 : Int32))).toBitVec.setWidth 16).setWidth 32) = _
  rw [BitVec.toNat_setWidth, BitVec.toNat_setWidth, g]
  omega
end StrChars
namespace StrChars
open Jvm Sem ClassFile Op Lib Jvm.Stand Jvm.Free.XT Jvm.Free.ALB Jvm.Free.JM Jvm.Free
open Jvm.Lib.Cold (StaticIs)
theorem shr1 {n : Nat} (h : 2 * n < 2 ^ 31) : Int32.ofNat (2 * n) >>> ((1 : Int32) &&& 31) = Int32.ofNat n := by
  have e : ((1 : Int32) &&& 31) = 1 := by decide
  rw [e]
  apply Int32.toBitVec_inj.mp
  rw [Int32.toBitVec_shiftRight]
  have e1 : ((1 : Int32).toBitVec.smod 32) = 1#32 := by decide
  have hm : (BitVec.ofNat 32 (2 * n)).toNat = 2 * n := by rw [BitVec.toNat_ofNat, Nat.mod_eq_of_lt (by omega)]
  rw [e1, BitVec.sshiftRight_eq']
  apply BitVec.eq_of_toNat_eq
  show ((BitVec.ofNat 32 (2 * n)).sshiftRight 1).toNat = (BitVec.ofNat 32 n).toNat
  rw [BitVec.toNat_sshiftRight_of_msb_false (by rw [BitVec.msb_eq_false_iff_two_mul_lt, hm]; omega), hm, BitVec.toNat_ofNat, Nat.shiftRight_eq_div_pow]
  omega
/-- charAt's cast of a byte read back -/
def chr8 (u : Int32) : Int32 := (u &&& 255).toUInt32.toUInt16.toUInt32.toInt32
theorem chr8_lo8 {c : Int32} (h0 : ¬ c < 0) (h1 : ¬ 255 < c) : chr8 (lo8 c) = c := by
  have t : ∀ k : Fin 256, (Int32.ofNat k.val).toUInt32.toUInt16.toUInt32.toInt32 = Int32.ofNat k.val := by decide +kernel
  unfold chr8
  rw [lo8_mask h0 h1]
  rw [Int32.lt_iff_toInt_lt] at h0 h1
  have e0 : (0 : Int32).toInt = 0 := rfl
  have e1 : (255 : Int32).toInt = 255 := rfl
  obtain ⟨k, hk⟩ : ∃ k : Nat, c.toInt = k := ⟨c.toInt.toNat, by omega⟩
  have hx : c = Int32.ofNat k := Int32.toInt_inj.mp (by rw [hk, Int32.toInt_ofNat_small (by omega)])
  rw [hx]
  exact t ⟨k, by omega⟩
theorem narrow_ch {c : Int32} (h0 : ¬ c < 0) (h1 : ¬ 65535 < c) : narrow .char (.int c) = .int c := by
  have q : narrow .char (.int (pairCh (lo8 c) (hi8 c))) = .int (pairCh (lo8 c) (hi8 c)) := narrow_c _
  rwa [pair_says h0 h1] at q
/-- the array's cell V codes the n chars f 0 .. f (n - 1) by the coder cd, as the JDK does: coder 1 just where some char is above 255 -/
def Cod (cd : Int32) (n : Nat) (f : Nat → Int32) (V : Cell) : Prop := (cd = 0 ∧ V.slots.size = n ∧ ∀ j, j < n → V.slots[j]? = some (.int (lo8 (f j))) ∧ ¬ 255 < f j) ∨ (cd = 1 ∧ V.slots.size = 2 * n ∧ (∀ j, j < n → V.slots[2 * j]? = some (.int (lo8 (f j))) ∧ V.slots[2 * j + 1]? = some (.int (hi8 (f j)))) ∧ ∃ j, j < n ∧ 255 < f j)
theorem Cod.cd {cd : Int32} {n : Nat} {f : Nat → Int32} {V : Cell} (h : Cod cd n f V) : cd = 0 ∨ cd = 1 := h.imp (fun q => q.1) fun q => q.1
theorem Cod.len {cd : Int32} {n : Nat} {f : Nat → Int32} {V : Cell} (h : Cod cd n f V) (hs : V.slots.size < 2 ^ 31) : Int32.ofNat V.slots.size >>> (cd &&& 31) = Int32.ofNat n := by
  rcases h with ⟨rfl, h, -⟩ | ⟨rfl, h, -⟩
  · rw [shr0, h]
  · rw [h, shr1 (by omega)]
/-- **x is a String of the n chars f 0 .. f (n - 1)**, Latin-1 or UTF-16; its array at t has the cell V -/
def Txt (x t : Addr) (V : Cell) (cd : Int32) (n : Nat) (f : Nat → Int32) (U : State) : Prop := Exact "java/lang/String" x U ∧ Has x "java/lang/String" "value" "[B" (.ref t) U ∧ Has x "java/lang/String" "coder" "B" (.int cd) U ∧ XT.Arr .byte t V U ∧ Cod cd n f V ∧ ∀ j, j < n → ¬ f j < 0 ∧ ¬ 65535 < f j
theorem Txt.mv {x t : Addr} {V : Cell} {cd : Int32} {n : Nat} {f : Nat → Int32} {U U' : State} (h : Txt x t V cd n f U) (hal : U.vm.Alike U'.vm) (hh : U'.heap = U.heap) : Txt x t V cd n f U' := ⟨h.1.mv hal hh, h.2.1.mv hal hh, h.2.2.1.mv hal hh, h.2.2.2.1.mv hal hh, h.2.2.2.2⟩
namespace Cdr
def yN : MethodName := ⟨"java/lang/String", "coder", "()B"⟩
abbrev yB : ByteArray := jdk_42_method_152_code
theorem d0 : decode yB 0 = .ok (.getstatic 38, 3) := by decide +kernel
theorem d3 : decode yB 3 = .ok (.ifCond (.eq) 10, 3) := by decide +kernel
theorem d6 : decode yB 6 = .ok (.aload_n 0, 1) := by decide +kernel
theorem d7 : decode yB 7 = .ok (.getfield 15, 3) := by decide +kernel
theorem d10 : decode yB 10 = .ok (.goto 4, 3) := by decide +kernel
theorem d14 : decode yB 14 = .ok (.ireturn, 1) := by decide +kernel
def site : List Cond := [.fieldLink "java/lang/String" 38 "java/lang/String" "COMPACT_STRINGS" "Z", .fieldLink "java/lang/String" 15 "java/lang/String" "coder" "B"]
def tab : Cond := tabOf yN yB 1 (some .byte) site
def P (x : Addr) (cd z : Int32) (args : Array Value) (s : State) : Prop := args = #[.ref x] ∧ Has x "java/lang/String" "coder" "B" (.int cd) s ∧ (cd = 0 ∨ cd = 1) ∧ StaticIs s "java/lang/String" "COMPACT_STRINGS" "Z" (.int z) ∧ ¬ z = 0
def E (cd : Int32) (r : Option Value) (s u : State) : Prop := XT.PureE (some (.int cd)) r s u
theorem law (l : Launch) (x : Addr) (cd z : Int32) : Law l yN 1 0 0 0 yB 1 (some .byte) site (P x cd z) (E cd) [] 0 0 := by
  refine Law.of_walk (plainFor_of_name (by decide +kernel)) (by decide +kernel) (by decide +kernel) (by decide) (fun _ _ h => by rw [h.1]; rfl) (fun _ U U' hal hh h => ⟨h.1, h.2.1.mv hal hh, h.2.2.1, h.2.2.2.1.there hal hh, h.2.2.2.2⟩) (fun r U U' V V' h1 hal h2 h => XT.PureE.mv r U U' V V' h1 hal h2 h) ?_
  intro p e s m args below meth c s₁ X0 hexec hbytes hml hret hlk hnm hown hh0 W hP
  obtain ⟨rfl, hx, hc, s1, hz⟩ := hP
  have c1 : Steps p.tables e below (s₁.setTop (entryFrame m #[.ref x] 1)) (s₁.setTop (mkF m 0 #[.val (.ref x)] [])) := entry rfl
  obtain ⟨T2, X2, q2, st2⟩ := X0.sget hexec hown (wk W (.fieldLink "java/lang/String" 38 "java/lang/String" "COMPACT_STRINGS" "Z")) s1 (fun _ _ h => by rw [hh0]; exact h) (g := (mkF m 0 #[.val (.ref x)] [])) rfl (hb hbytes d0)
  have hh2 := q2.trans hh0
  have c3 : Steps p.tables e below (s₁.setTop (entryFrame m #[.ref x] 1)) (T2.setTop (mkF m 7 #[.val (.ref x)] [.ref x])) := (c1.trans (st2 _ (Steps.refl _))).trans (by
    refine XS.ifNo X2.here hexec rfl (hb hbytes d3) rfl (i0_eq_f hz) ?_
    refine XS.aloadN X2.here hexec rfl (hb hbytes d6) rfl rfl ?_
    exact Steps.refl _)
  obtain ⟨T4, X4, q4, st4⟩ := X2.hget hexec hown (wk W (.fieldLink "java/lang/String" 15 "java/lang/String" "coder" "B")) (hx.mv X2.warmed.alike hh2) (g := (mkF m 7 #[.val (.ref x)] [.ref x])) rfl (rest := []) rfl (hb hbytes d7)
  have c5 : Steps p.tables e below (s₁.setTop (entryFrame m #[.ref x] 1)) (T4.setTop (mkF m 14 #[.val (.ref x)] [.int cd])) := (c3.trans (st4 _ (Steps.refl _))).trans (by
    refine XS.goto X4.here hexec rfl (pc0 := 10) rfl (hb hbytes d10) (by decide) rfl ?_
    exact Steps.refl _)
  exact ⟨T4, some (.int cd), _, _, _, X4, rfl, rfl, rfl, (fun h => by cases h), ⟨rfl, q4.trans hh2⟩, fun fs hl => c5.trans (X4.ireturnOut hexec hret (by rcases hc with rfl | rfl <;> rfl) (Or.inr (Or.inr (Or.inl rfl))) (hb hbytes d14) hl)⟩
end Cdr
namespace Len
def yN : MethodName := ⟨"java/lang/String", "length", "()I"⟩
abbrev yB : ByteArray := jdk_42_method_54_code
theorem d0 : decode yB 0 = .ok (.aload_n 0, 1) := by decide +kernel
theorem d1 : decode yB 1 = .ok (.getfield 9, 3) := by decide +kernel
theorem d4 : decode yB 4 = .ok (.arraylength, 1) := by decide +kernel
theorem d5 : decode yB 5 = .ok (.aload_n 0, 1) := by decide +kernel
theorem d6 : decode yB 6 = .ok (.invokevirtual 335, 3) := by decide +kernel
theorem d9 : decode yB 9 = .ok (.ishr, 1) := by decide +kernel
theorem d10 : decode yB 10 = .ok (.ireturn, 1) := by decide +kernel
def site : List Cond := [.fieldLink "java/lang/String" 9 "java/lang/String" "value" "[B", Cdr.tab] ++ virtW "java/lang/String" 335 "java/lang/String" Cdr.yN Cdr.yN
def tab : Cond := tabOf yN yB 1 (some .int) site
def P (x t : Addr) (V : Cell) (cd : Int32) (n : Nat) (f : Nat → Int32) (z : Int32) (args : Array Value) (s : State) : Prop := args = #[.ref x] ∧ Txt x t V cd n f s ∧ StaticIs s "java/lang/String" "COMPACT_STRINGS" "Z" (.int z) ∧ ¬ z = 0
def E (n : Nat) (r : Option Value) (s u : State) : Prop := XT.PureE (some (.int (Int32.ofNat n))) r s u
/-- length() of a String of n chars, in either coding -/
theorem law (l : Launch) (x t : Addr) (V : Cell) (cd : Int32) (n : Nat) (f : Nat → Int32) (z : Int32) : Law l yN 1 0 1 13 yB 1 (some .int) site (P x t V cd n f z) (E n) [] 0 0 := by
  refine Law.of_walk (plainFor_of_name (by decide +kernel)) (by decide +kernel) (by decide +kernel) (by decide) (fun _ _ h => by rw [h.1]; rfl) (fun _ U U' hal hh h => ⟨h.1, h.2.1.mv hal hh, h.2.2.1.there hal hh, h.2.2.2⟩) (fun r U U' V V' h1 hal h2 h => XT.PureE.mv r U U' V V' h1 hal h2 h) ?_
  intro p e s m args below meth c s₁ X0 hexec hbytes hml hret hlk hnm hown hh0 W hP
  obtain ⟨rfl, hx, s1, hz⟩ := hP
  have v31 := hx.2.2.2.1.2.2.2
  have c1 : Steps p.tables e below (s₁.setTop (entryFrame m #[.ref x] 1)) (s₁.setTop (mkF m 1 #[.val (.ref x)] [.ref x])) := Steps.trans (entry rfl) (by
    show Steps p.tables e below (s₁.setTop (mkF m 0 #[.val (.ref x)] [])) _
    refine XS.aloadN X0.here hexec rfl (hb hbytes d0) rfl rfl ?_
    exact Steps.refl _)
  obtain ⟨T2, X2, q2, st2⟩ := X0.hget hexec hown (wk W (.fieldLink "java/lang/String" 9 "java/lang/String" "value" "[B")) (hx.mv X0.warmed.alike hh0).2.1 (g := (mkF m 1 #[.val (.ref x)] [.ref x])) rfl (rest := []) rfl (hb hbytes d1)
  have hh2 := q2.trans hh0
  have hx2 := hx.mv X2.warmed.alike hh2
  have c3 : Steps p.tables e below (s₁.setTop (entryFrame m #[.ref x] 1)) (T2.setTop (mkF m 6 #[.val (.ref x)] [.ref x, .int (Int32.ofNat V.slots.size)])) := (c1.trans (st2 _ (Steps.refl _))).trans (by
    refine X2.alen hexec hx2.2.2.2.1 rfl rfl (hb hbytes d4) ?_
    refine XS.aloadN X2.here hexec rfl (hb hbytes d5) rfl rfl ?_
    exact Steps.refl _)
  obtain ⟨v4, T4, X4, E4, g4⟩ := X2.callV hexec (Cdr.law l x cd z) hown (wks W (virtW "java/lang/String" 335 "java/lang/String" Cdr.yN Cdr.yN)) rfl (by decide) (wk W Cdr.tab) (W := 1) (Nat.le_of_ble_eq_true rfl) (Nat.le_of_ble_eq_true rfl) (Nat.le_refl _) (Nat.le_refl _) (hx2.1.fc X2.warmed.alike) hx2.1.is (g := (mkF m 6 #[.val (.ref x)] [.ref x, .int (Int32.ofNat V.slots.size)])) rfl (by rw [hml]; rfl) c3 (argsL := []) (rest := [.int (Int32.ofNat V.slots.size)]) rfl rfl (by show 2 * 0 + (1 + 0) ≤ _; decide) (hb hbytes d6) (⟨rfl, hx2.2.2.1, hx.2.2.2.2.1.cd, s1.there X2.warmed.alike hh2, hz⟩)
  obtain ⟨rfl, q4⟩ := E4
  have c5 : Steps p.tables e below (s₁.setTop (entryFrame m #[.ref x] 1)) (T4.setTop (mkF m 10 #[.val (.ref x)] [.int (Int32.ofNat V.slots.size >>> (cd &&& 31))])) := Steps.trans g4 (by
    refine ishr X4.here hexec rfl (hb hbytes d9) rfl ?_
    exact Steps.refl _)
  rw [hx.2.2.2.2.1.len v31] at c5
  exact ⟨T4, some (.int (Int32.ofNat n)), _, _, _, X4, rfl, rfl, rfl, (fun h => by cases h), ⟨rfl, q4.trans hh2⟩, fun fs hl => c5.trans (X4.ireturnOut hexec hret rfl (Or.inl rfl) (hb hbytes d10) hl)⟩
theorem pays {l : Launch} {R : Room} {p : Program} {e : Env} {below : List Frame} {s : State} {sargs : Array Value} {len W : Nat} (x t : Addr) (V : Cell) (cd : Int32) (n : Nat) (f : Nat → Int32) (z : Int32) (htab : tab.before sargs s = true) (hfr : 2 ≤ R.frames) (hlo : W + 25 ≤ R.locals) :
    Back l R p e below s sargs yN len W (fun A₁ a₁ => A₁.cells + 0 ≤ R.cells ∧ A₁.slots + 0 ≤ R.slots ∧ P x t V cd n f z a₁ A₁.U) (fun A₁ _ v₁ B₁ => E n v₁ A₁.U B₁.U ∧ B₁.locs = A₁.locs ++ [] ∧ B₁.cells = A₁.cells + 0 ∧ B₁.slots = A₁.slots + 0) :=
  (law l x t V cd n f z).pays htab hfr (by omega)
end Len
namespace IsL
def yN : MethodName := ⟨"java/lang/String", "isLatin1", "()Z"⟩
abbrev yB : ByteArray := jdk_42_method_154_code
theorem d0 : decode yB 0 = .ok (.getstatic 38, 3) := by decide +kernel
theorem d3 : decode yB 3 = .ok (.ifCond (.eq) 14, 3) := by decide +kernel
theorem d6 : decode yB 6 = .ok (.aload_n 0, 1) := by decide +kernel
theorem d7 : decode yB 7 = .ok (.getfield 15, 3) := by decide +kernel
theorem d10 : decode yB 10 = .ok (.ifCond (.ne) 7, 3) := by decide +kernel
theorem d13 : decode yB 13 = .ok (.iconst 1, 1) := by decide +kernel
theorem d14 : decode yB 14 = .ok (.goto 4, 3) := by decide +kernel
theorem d17 : decode yB 17 = .ok (.iconst 0, 1) := by decide +kernel
theorem d18 : decode yB 18 = .ok (.ireturn, 1) := by decide +kernel
def site : List Cond := [.fieldLink "java/lang/String" 38 "java/lang/String" "COMPACT_STRINGS" "Z", .fieldLink "java/lang/String" 15 "java/lang/String" "coder" "B"]
def tab : Cond := tabOf yN yB 1 (some .boolean) site
def P (x : Addr) (cd z : Int32) (args : Array Value) (s : State) : Prop := args = #[.ref x] ∧ Has x "java/lang/String" "coder" "B" (.int cd) s ∧ (cd = 0 ∨ cd = 1) ∧ StaticIs s "java/lang/String" "COMPACT_STRINGS" "Z" (.int z) ∧ ¬ z = 0
def E (cd : Int32) (r : Option Value) (s u : State) : Prop := XT.PureE (some (.int (1 - cd))) r s u
theorem law (l : Launch) (x : Addr) (cd z : Int32) : Law l yN 1 0 0 0 yB 1 (some .boolean) site (P x cd z) (E cd) [] 0 0 := by
  refine Law.of_walk (plainFor_of_name (by decide +kernel)) (by decide +kernel) (by decide +kernel) (by decide) (fun _ _ h => by rw [h.1]; rfl) (fun _ U U' hal hh h => ⟨h.1, h.2.1.mv hal hh, h.2.2.1, h.2.2.2.1.there hal hh, h.2.2.2.2⟩) (fun r U U' V V' h1 hal h2 h => XT.PureE.mv r U U' V V' h1 hal h2 h) ?_
  intro p e s m args below meth c s₁ X0 hexec hbytes hml hret hlk hnm hown hh0 W hP
  obtain ⟨rfl, hx, hc, s1, hz⟩ := hP
  have c1 : Steps p.tables e below (s₁.setTop (entryFrame m #[.ref x] 1)) (s₁.setTop (mkF m 0 #[.val (.ref x)] [])) := entry rfl
  obtain ⟨T2, X2, q2, st2⟩ := X0.sget hexec hown (wk W (.fieldLink "java/lang/String" 38 "java/lang/String" "COMPACT_STRINGS" "Z")) s1 (fun _ _ h => by rw [hh0]; exact h) (g := (mkF m 0 #[.val (.ref x)] [])) rfl (hb hbytes d0)
  have hh2 := q2.trans hh0
  have c3 : Steps p.tables e below (s₁.setTop (entryFrame m #[.ref x] 1)) (T2.setTop (mkF m 7 #[.val (.ref x)] [.ref x])) := (c1.trans (st2 _ (Steps.refl _))).trans (by
    refine XS.ifNo X2.here hexec rfl (hb hbytes d3) rfl (i0_eq_f hz) ?_
    refine XS.aloadN X2.here hexec rfl (hb hbytes d6) rfl rfl ?_
    exact Steps.refl _)
  obtain ⟨T4, X4, q4, st4⟩ := X2.hget hexec hown (wk W (.fieldLink "java/lang/String" 15 "java/lang/String" "coder" "B")) (hx.mv X2.warmed.alike hh2) (g := (mkF m 7 #[.val (.ref x)] [.ref x])) rfl (rest := []) rfl (hb hbytes d7)
  have c5 : Steps p.tables e below (s₁.setTop (entryFrame m #[.ref x] 1)) (T4.setTop (mkF m 10 #[.val (.ref x)] [.int cd])) := c3.trans (st4 _ (Steps.refl _))
  have c6 : Steps p.tables e below (s₁.setTop (entryFrame m #[.ref x] 1)) (T4.setTop (mkF m 18 #[.val (.ref x)] [.int (1 - cd)])) := by
    rcases hc with rfl | rfl
    · exact c5.trans (by
        refine XS.ifNo X4.here hexec rfl (hb hbytes d10) rfl (i0_ne_f rfl) ?_
        refine iconstV X4.here hexec rfl 1 (hb hbytes d13) (by decide) ?_
        refine XS.goto X4.here hexec rfl (pc0 := 14) rfl (hb hbytes d14) (by decide) rfl ?_
        exact Steps.refl _)
    · exact c5.trans (by
        refine XS.ifYes X4.here hexec rfl (pc0 := 10) rfl (hb hbytes d10) rfl (i0_ne_t (by decide)) (by decide) rfl ?_
        refine iconstV X4.here hexec rfl 0 (hb hbytes d17) (by decide) ?_
        exact Steps.refl _)
  exact ⟨T4, some (.int (1 - cd)), _, _, _, X4, rfl, rfl, rfl, (fun h => by cases h), ⟨rfl, q4.trans hh2⟩, fun fs hl => c6.trans (X4.ireturnOut hexec hret (by rcases hc with rfl | rfl <;> rfl) (Or.inr (Or.inl rfl)) (hb hbytes d18) hl)⟩
end IsL
namespace LChA
def yN : MethodName := ⟨"java/lang/StringLatin1", "charAt", "([BI)C"⟩
abbrev yB : ByteArray := jdk_43_method_2_code
theorem d0 : decode yB 0 = .ok (.iload_n 1, 1) := by decide +kernel
theorem d1 : decode yB 1 = .ok (.aload_n 0, 1) := by decide +kernel
theorem d2 : decode yB 2 = .ok (.arraylength, 1) := by decide +kernel
theorem d3 : decode yB 3 = .ok (.invokestatic 9, 3) := by decide +kernel
theorem d6 : decode yB 6 = .ok (.aload_n 0, 1) := by decide +kernel
theorem d7 : decode yB 7 = .ok (.iload_n 1, 1) := by decide +kernel
theorem d8 : decode yB 8 = .ok (.baload, 1) := by decide +kernel
theorem d9 : decode yB 9 = .ok (.sipush 255, 3) := by decide +kernel
theorem d12 : decode yB 12 = .ok (.iand, 1) := by decide +kernel
theorem d13 : decode yB 13 = .ok (.i2c, 1) := by decide +kernel
theorem d14 : decode yB 14 = .ok (.ireturn, 1) := by decide +kernel
def site : List Cond := [JO.Str_checkIndex.tab] ++ staticW "java/lang/StringLatin1" 9 JO.Str_checkIndex.yN
def tab : Cond := tabOf yN yB 2 (some .char) site
def P (t : Addr) (V : Cell) (i : Nat) (u : Int32) (fm : Value) (args : Array Value) (s : State) : Prop := args = #[.ref t, .int (Int32.ofNat i)] ∧ XT.Arr .byte t V s ∧ V.slots[i]? = some (.int u) ∧ (StaticIs s "jdk/internal/util/Preconditions" "SIOOBE_FORMATTER" "Ljava/util/function/BiFunction;" fm ∧ fm.isRef = true)
def E (u : Int32) (r : Option Value) (s w : State) : Prop := XT.PureE (some (.int (chr8 u))) r s w
theorem law (l : Launch) (t : Addr) (V : Cell) (i : Nat) (u : Int32) (fm : Value) : Law l yN 2 2 2 27 yB 2 (some .char) site (P t V i u fm) (E u) [] 0 0 := by
  refine Law.of_walk (plainFor_of_name (by decide +kernel)) (by decide +kernel) (by decide +kernel) (by decide) (fun _ _ h => by rw [h.1]; rfl) (fun _ U U' hal hh h => ⟨h.1, h.2.1.mv hal hh, h.2.2.1, h.2.2.2.1.there hal hh, h.2.2.2.2⟩) (fun r U U' V V' h1 hal h2 h => XT.PureE.mv r U U' V V' h1 hal h2 h) ?_
  intro p e s m args below meth c s₁ X0 hexec hbytes hml hret hlk hnm hown hh0 W hP
  obtain ⟨rfl, hV, hu, s1, rf⟩ := hP
  have v31 := hV.2.2.2
  have hi : i < V.slots.size := (Array.getElem?_eq_some_iff.mp hu).1
  have c1 : Steps p.tables e below (s₁.setTop (entryFrame m #[.ref t, .int (Int32.ofNat i)] 2)) (s₁.setTop (mkF m 0 #[.val (.ref t), .val (.int (Int32.ofNat i))] [])) := entry rfl
  have c2 : Steps p.tables e below (s₁.setTop (entryFrame m #[.ref t, .int (Int32.ofNat i)] 2)) (s₁.setTop (mkF m 3 #[.val (.ref t), .val (.int (Int32.ofNat i))] [.int (Int32.ofNat V.slots.size), .int (Int32.ofNat i)])) := c1.trans (by
    refine XS.iloadN X0.here hexec rfl (hb hbytes d0) rfl ?_
    refine XS.aloadN X0.here hexec rfl (hb hbytes d1) rfl rfl ?_
    refine X0.alen hexec (hV.mv X0.warmed.alike hh0) rfl rfl (hb hbytes d2) ?_
    exact Steps.refl _)
  obtain ⟨v3, T3, X3, E3, g3⟩ := X0.callS hexec (JO.Str_checkIndex.law l (Int32.ofNat i) (Int32.ofNat V.slots.size) fm) hown (wks W (staticW "java/lang/StringLatin1" 9 JO.Str_checkIndex.yN)) (wk W JO.Str_checkIndex.tab) (W := 0) (Nat.le_of_ble_eq_true rfl) (Nat.le_of_ble_eq_true rfl) (Nat.le_refl _) (Nat.le_refl _) (g := (mkF m 3 #[.val (.ref t), .val (.int (Int32.ofNat i))] [.int (Int32.ofNat V.slots.size), .int (Int32.ofNat i)])) rfl (by rw [hml]; rfl) c2 (argsL := [.int (Int32.ofNat i), .int (Int32.ofNat V.slots.size)]) (rest := []) rfl rfl (by show 2 * 0 + 0 ≤ _; decide) (hb hbytes d3) (⟨rfl, rf, s1.there X0.warmed.alike hh0, Int32.ofNat_not_neg (by omega), lt32 v31 hi⟩)
  obtain ⟨rfl, q3⟩ := E3
  have hh3 := q3.trans hh0
  have c4 : Steps p.tables e below (s₁.setTop (entryFrame m #[.ref t, .int (Int32.ofNat i)] 2)) (T3.setTop (mkF m 14 #[.val (.ref t), .val (.int (Int32.ofNat i))] [.int (chr8 u)])) := Steps.trans g3 (by
    refine XS.aloadN X3.here hexec rfl (hb hbytes d6) rfl rfl ?_
    refine XS.iloadN X3.here hexec rfl (hb hbytes d7) rfl ?_
    refine X3.aget hexec (hV.mv X3.warmed.alike hh3) rfl hu rfl rfl (hb hbytes d8) ?_
    refine sipushV X3.here hexec rfl 255 (hb hbytes d9) (by decide) ?_
    refine XS.iand X3.here hexec rfl (hb hbytes d12) rfl ?_
    refine i2c X3.here hexec rfl (hb hbytes d13) rfl ?_
    exact Steps.refl _)
  exact ⟨T3, some (.int (chr8 u)), _, _, _, X3, rfl, rfl, rfl, (fun h => by cases h), ⟨rfl, hh3⟩, fun fs hl => c4.trans (X3.ireturnOut hexec hret (narrow_c _) (Or.inr (Or.inr (Or.inr (Or.inl rfl)))) (hb hbytes d14) hl)⟩
end LChA
end StrChars
namespace StrChars.Road
open Jvm Sem ClassFile Op Lib Jvm.Stand Jvm.Free Jvm.Free.XT
open Jvm.Lib.Cold (StaticIs)
theorem consq {a : Array Value} {s : State} {c : Jvm.Cond} {L : List Jvm.Cond} (h0 : c.before a s = true) (h : ∀ w ∈ L, w.before a s = true) : ∀ w ∈ c :: L, w.before a s = true := fun w hw => (List.mem_cons.mp hw).elim (fun e => e ▸ h0) (h w)
/-- the words of String.length(), either coding -/
abbrev wordsLen : List Jvm.Cond := [.code Len.yN Len.yB 1 (some .int), .initialized ST, .fieldLink ST 9 ST "value" "[B", .fieldLink ST 38 ST "COMPACT_STRINGS" "Z", .fieldLink ST 15 ST "coder" "B", .code Cdr.yN Cdr.yB 1 (some .byte), .methodLink ST 335 Cdr.yN, .declares Cdr.yN, .selects ST Cdr.yN Cdr.yN, .instanceMethod Cdr.yN]
theorem tabLen_of {a : Array Value} {s : State} (h : ∀ w ∈ wordsLen, w.before a s = true) : Len.tab.before a s = true := by
  have hc : Cdr.tab.before a s = true := unparts (wk h (.code Cdr.yN Cdr.yB 1 (some .byte))) (wks h (.initialized Cdr.yN.cls :: Cdr.site))
  have q := consq hc h
  exact unparts (wk q (.code Len.yN Len.yB 1 (some .int))) (wks q (.initialized Len.yN.cls :: Len.site))
theorem movedLen {Z s : State} {a0 args : Array Value} (hZ : Z.Warmed39 s.vm) (hw : ∀ d ∈ wordsLen, d.before a0 Z = true) : ∀ d ∈ wordsLen, d.before args s = true := fun d hd => by
  have q := hw d hd
  have t : ∀ d ∈ wordsLen, d = .arrayClass .byte ∨ (d.onTables && d.keepsFace) = true := by decide +kernel
  rcases t d hd with rfl | t
  · exact RoadKit.mvA hZ q
  · exact RoadKit.mv hZ q t
/-- the bytes of the chars cs, low before high -/
def wideBytes : List Int32 → List Value
  | [] => []
  | c :: cs => .int (lo8 c) :: .int (hi8 c) :: wideBytes cs
theorem wide_lo (d : Value) : ∀ (cs : List Int32) (j : Nat), j < cs.length → (wideBytes cs).getD (2 * j) d = .int (lo8 (cs.getD j 0))
  | [], j, h => absurd h (Nat.not_lt_zero j)
  | c :: cs, 0, _ => rfl
  | c :: cs, j + 1, h => by
    have q := wide_lo d cs j (by simpa using h)
    rw [show 2 * (j + 1) = 2 * j + 1 + 1 from by omega]
    simpa [wideBytes] using q
theorem wide_hi (d : Value) : ∀ (cs : List Int32) (j : Nat), j < cs.length → (wideBytes cs).getD (2 * j + 1) d = .int (hi8 (cs.getD j 0))
  | [], j, h => absurd h (Nat.not_lt_zero j)
  | c :: cs, 0, _ => rfl
  | c :: cs, j + 1, h => by
    have q := wide_hi d cs j (by simpa using h)
    rw [show 2 * (j + 1) + 1 = 2 * j + 1 + 1 + 1 from by omega]
    simpa [wideBytes] using q
theorem low_at (d : Value) (cs : List Int32) (j : Nat) (h : j < cs.length) : (cs.map fun c => Value.int (lo8 c)).getD j d = .int (lo8 (cs.getD j 0)) := by
  simp [List.getD_eq_getElem?_getD, h]
/-- an array of N2 bytes vs codes the chars cs by the coder cd -/
def CodA (cs : List Int32) (cd N2 : Int32) (vs : List Value) : Prop := (cd = 0 ∧ N2 = Int32.ofNat cs.length ∧ vs = (cs.map fun c => Value.int (lo8 c)) ∧ ∀ c ∈ cs, ¬ 255 < c) ∨ (cd = 1 ∧ N2 = Int32.ofNat (2 * cs.length) ∧ vs = wideBytes cs ∧ ∃ c ∈ cs, 255 < c)
theorem CodA.cod {cs : List Int32} {cd N2 : Int32} {vs : List Value} {V : Cell} (h : CodA cs cd N2 vs) (hn : 2 * cs.length < 2 ^ 31) (hs : V.slots.size = N2.toNatClampNeg) (hv : RoadKit.Has V vs (.int 0)) : Cod cd cs.length (fun j => cs.getD j 0) V := by
  rcases h with ⟨rfl, rfl, rfl, h⟩ | ⟨rfl, rfl, rfl, c, hc, hw⟩
  · rw [n32 (by omega)] at hs
    exact Or.inl ⟨rfl, hs, fun j hj => ⟨by rw [hv j (by omega), low_at _ _ _ hj], by
      have e : cs.getD j 0 = cs[j] := by simp [List.getD_eq_getElem?_getD, hj]
      show ¬ 255 < cs.getD j 0
      rw [e]; exact h _ (List.getElem_mem _)⟩⟩
  · rw [n32 (by omega)] at hs
    obtain ⟨j, hj, rfl⟩ := List.getElem_of_mem hc
    exact Or.inr ⟨rfl, hs, fun j hj => ⟨by rw [hv _ (by omega), wide_lo _ _ _ hj], by rw [hv _ (by omega), wide_hi _ _ _ hj]⟩, j, hj, by
      have e : cs.getD j 0 = cs[j] := by simp [List.getD_eq_getElem?_getD, hj]
      show 255 < cs.getD j 0
      rw [e]; exact hw⟩
/-- an object of exactly java/lang/String, its two fields found: as the laws ask it -/
theorem strObj {Z U : State} {a0 : Array Value} {kI : Nat} (wi : (Jvm.Cond.instantiable ST kI).before a0 Z = true) (al : Z.vm.Alike U.vm) {x : Addr} {v0 c0 : Value} (E : RoadKit.Exa Z U.heap x ST) (V : RoadKit.Fld Z U.heap x ST "value" "[B" v0) (C : RoadKit.Fld Z U.heap x ST "coder" "B" c0) :
    ∃ (D : Cell) (fV fC : Field), Blank ST x D U ∧ Found ST "value" "[B" fV U ∧ Found ST "coder" "B" fC U ∧ D.slots[fV.slot]? = some v0 ∧ D.slots[fC.slot]? = some c0 ∧ RoadKit.slotOf Z ST "value" "[B" = fV.slot ∧ RoadKit.slotOf Z ST "coder" "B" = fC.slot := by
  obtain ⟨D, cfV, kV, iV, fV, hD, gV, stV, knV, obV, asV, slV⟩ := V
  obtain ⟨D', cfC, kC, iC, fC, hD', gC, stC, -, -, asC, slC⟩ := C
  cases hD.symm.trans hD'
  obtain ⟨D2, kD, e1, e2, e3, e4, e5⟩ := E
  cases hD.symm.trans e1
  obtain ⟨c2, k2, i1, i2, i3, -⟩ := Cond.instantiable_spec wi
  cases e2.symm.trans i1
  cases e3.symm.trans i2
  obtain ⟨kU, u1, u2⟩ := al.2.2 _ _ e3
  exact ⟨D, fV, fC, ⟨hD, ⟨knV, fun q hq => by rw [hq] at obV; cases obV⟩, by rw [al.findClass]; exact e2, kU, u1, by rw [u2]; exact i3, by rw [u2]; exact e5 i3⟩, ⟨SBG.found_only al ⟨cfV, kV, iV, gV⟩, stV⟩, ⟨SBG.found_only al ⟨cfC, kC, iC, gC⟩, stC⟩, slV, slC, by simp [RoadKit.slotOf, gV], by simp [RoadKit.slotOf, gC]⟩
theorem sta_is {Z U : State} (al : Z.vm.Alike U.vm) {C n d : String} {v : Value} (S : RoadKit.Sta Z U.heap C n d v) : StaticIs U C n d v := by
  obtain ⟨cfS, iS, kS, fS, st, cS, t1, t2, t3, t4, t5, t6, t7⟩ := S
  exact StaticIs.there (s := { Z with heap := U.heap }) ⟨cfS, iS, kS, fS, st, cS, t1, t2, t3, t4, t5, (fun q => by rw [q] at t6; cases t6), t7⟩ al rfl
/-- **length() OF SUCH A STRING** -/
theorem lenW {p : Program} {l : Launch} {e : Env} {R : Room} {s : State} {args : Array Value} {below : List Frame} {len W : Nat} {Z : State} {a0 : Array Value} {h : Heap} (hZ : Z.Warmed39 s.vm) (hw : ∀ d ∈ wordsLen, d.before a0 Z = true) {kI : Nat} (wi : (Jvm.Cond.instantiable ST kI).before a0 Z = true)
    {x t : Addr} {kb : ClassId} {cs : List Int32} {cd N2 z : Int32} {vs : List Value} (E : RoadKit.Exa Z h x ST) (V : RoadKit.Fld Z h x ST "value" "[B" (.ref t)) (C : RoadKit.Fld Z h x ST "coder" "B" (.int cd)) (K : RoadKit.Arv Z h t kb .byte N2 vs (.int 0)) (hc : CodA cs cd N2 vs) (hb : ∀ c ∈ cs, ¬ c < 0 ∧ ¬ (65535 : Int32) < c)
    (S : RoadKit.Sta Z h ST "COMPACT_STRINGS" "Z" (.int z)) (hz : ¬ z = 0) (l2 : cs.length ≤ 4000) (hfr : 2 ≤ R.frames) (hlo : W + 25 ≤ R.locals) :
    Back l R p e below s args (⟨"java/lang/String", "length", "()I"⟩ : MethodName) len W (fun P a => a = #[.ref x] ∧ P.U.heap = h ∧ P.cells + 0 ≤ R.cells ∧ P.slots + 0 ≤ R.slots)
      (fun P _ v B => ∃ L, (v = some (.int (Int32.ofNat cs.length)) ∧ L = [] ∧ B.U.heap = h) ∧ B.locs = P.locs ++ L ∧ B.cells = P.cells + 0 ∧ B.slots = P.slots + 0) := by
  obtain ⟨A, K1, K2, K3, K4, K5, K6⟩ := K
  have hcod := hc.cod (by omega) K3 K5
  intro m meth c P g ig mk a X hg hsize hdg hW hn hp'
  obtain ⟨rfl, rfl, r1, r2⟩ := hp'
  have al : Z.vm.Alike P.U.vm := hZ.alike.trans X.warmed.alike
  obtain ⟨D, fV, fC, hB, F1, F2, g1, g2, -, -⟩ := strObj wi al E V C
  have hx : Txt x t A cd cs.length (fun j => cs.getD j 0) P.U := ⟨⟨_, hB.2.2.1, D, hB.1, rfl, by cases q : D.vm <;> first | rfl | exact absurd q (hB.2.1.2 _)⟩, Has.of hB F1 g1, Has.of hB F2 g2, ⟨K1.1, State.isArrayOf_alike al K1.2.1, K1.2.2, by rcases hcod with ⟨-, q, -⟩ | ⟨-, q, -⟩ <;> omega⟩, hcod, fun j hj => by
    have e : cs.getD j 0 = cs[j] := by simp [List.getD_eq_getElem?_getD, hj]
    show ¬ cs.getD j 0 < 0 ∧ ¬ 65535 < cs.getD j 0
    rw [e]; exact hb _ (List.getElem_mem _)⟩
  obtain ⟨v, B, X', ⟨⟨hv, hh⟩, hl, hk, hs⟩, st⟩ := Len.pays x t A cd cs.length (fun j => cs.getD j 0) z (tabLen_of (movedLen hZ hw)) hfr hlo m meth c P g ig mk _ X hg hsize hdg hW hn ⟨r1, r2, rfl, hx, sta_is al S, hz⟩
  exact ⟨v, B, X', ⟨[], ⟨hv, rfl, hh⟩, hl, hk, hs⟩, st⟩
end StrChars.Road
namespace StrChars.Road
open Jvm Sem ClassFile Op Lib Jvm.Stand Jvm.Free Jvm.Free.XT
open Jvm.Lib.Cold (StaticIs)
/-- the road's facts of a String, as the laws ask it -/
theorem txt_of {Z U : State} {a0 : Array Value} {kI : Nat} (wi : (Jvm.Cond.instantiable ST kI).before a0 Z = true) (al : Z.vm.Alike U.vm) {x t : Addr} {kb : ClassId} {cs : List Int32} {cd N2 : Int32} {vs : List Value} (E : RoadKit.Exa Z U.heap x ST) (V : RoadKit.Fld Z U.heap x ST "value" "[B" (.ref t)) (C : RoadKit.Fld Z U.heap x ST "coder" "B" (.int cd)) (K : RoadKit.Arv Z U.heap t kb .byte N2 vs (.int 0)) (hc : CodA cs cd N2 vs) (hb : ∀ c ∈ cs, ¬ c < 0 ∧ ¬ (65535 : Int32) < c) (l2 : cs.length ≤ 4000) :
    ∃ A, Txt x t A cd cs.length (fun j => cs.getD j 0) U := by
  obtain ⟨A, K1, K2, K3, K4, K5, K6⟩ := K
  have hcod := hc.cod (by omega) K3 K5
  obtain ⟨D, fV, fC, hB, F1, F2, g1, g2, -, -⟩ := strObj wi al E V C
  exact ⟨A, ⟨_, hB.2.2.1, D, hB.1, rfl, by cases q : D.vm <;> first | rfl | exact absurd q (hB.2.1.2 _)⟩, Has.of hB F1 g1, Has.of hB F2 g2, ⟨K1.1, State.isArrayOf_alike al K1.2.1, K1.2.2, by rcases hcod with ⟨-, q, -⟩ | ⟨-, q, -⟩ <;> omega⟩, hcod, fun j hj => by
    have e : cs.getD j 0 = cs[j] := by simp [List.getD_eq_getElem?_getD, hj]
    show ¬ cs.getD j 0 < 0 ∧ ¬ 65535 < cs.getD j 0
    rw [e]; exact hb _ (List.getElem_mem _)⟩
end StrChars.Road
namespace StrChars
open Jvm Sem ClassFile Op Lib Jvm.Stand Jvm.Free.XT Jvm.Free.ALB Jvm.Free.JM Jvm.Free
open Jvm.Lib.Cold (StaticIs)
namespace ChN
def yN : MethodName := ⟨"java/lang/String", "charAt", "(I)C"⟩
abbrev yB : ByteArray := jdk_42_method_56_code
theorem d0 : decode yB 0 = .ok (.aload_n 0, 1) := by decide +kernel
theorem d1 : decode yB 1 = .ok (.invokevirtual 492, 3) := by decide +kernel
theorem d4 : decode yB 4 = .ok (.ifCond (.eq) 12, 3) := by decide +kernel
theorem d7 : decode yB 7 = .ok (.aload_n 0, 1) := by decide +kernel
theorem d8 : decode yB 8 = .ok (.getfield 9, 3) := by decide +kernel
theorem d11 : decode yB 11 = .ok (.iload_n 1, 1) := by decide +kernel
theorem d12 : decode yB 12 = .ok (.invokestatic 495, 3) := by decide +kernel
theorem d15 : decode yB 15 = .ok (.ireturn, 1) := by decide +kernel
def site : List Cond := [.fieldLink "java/lang/String" 9 "java/lang/String" "value" "[B", IsL.tab, LChA.tab] ++ virtW "java/lang/String" 492 "java/lang/String" IsL.yN IsL.yN ++ staticW "java/lang/String" 495 LChA.yN
def tab : Cond := tabOf yN yB 2 (some .char) site
def P (x t : Addr) (V : Cell) (n : Nat) (f : Nat → Int32) (z : Int32) (fm : Value) (i : Nat) (args : Array Value) (s : State) : Prop := args = #[.ref x, .int (Int32.ofNat i)] ∧ Txt x t V 0 n f s ∧ i < n ∧ StaticIs s "java/lang/String" "COMPACT_STRINGS" "Z" (.int z) ∧ ¬ z = 0 ∧ StaticIs s "jdk/internal/util/Preconditions" "SIOOBE_FORMATTER" "Ljava/util/function/BiFunction;" fm ∧ fm.isRef = true
def E (f : Nat → Int32) (i : Nat) (r : Option Value) (s u : State) : Prop := XT.PureE (some (.int (f i))) r s u
/-- charAt(i) of a Latin-1 String of n chars, i < n: f i -/
theorem law (l : Launch) (x t : Addr) (V : Cell) (n : Nat) (f : Nat → Int32) (z : Int32) (fm : Value) (i : Nat) : Law l yN 2 1 3 40 yB 2 (some .char) site (P x t V n f z fm i) (E f i) [] 0 0 := by
  refine Law.of_walk (plainFor_of_name (by decide +kernel)) (by decide +kernel) (by decide +kernel) (by decide) (fun _ _ h => by rw [h.1]; rfl) (fun _ U U' hal hh h => ⟨h.1, h.2.1.mv hal hh, h.2.2.1, h.2.2.2.1.there hal hh, h.2.2.2.2.1, h.2.2.2.2.2.1.there hal hh, h.2.2.2.2.2.2⟩) (fun r U U' V V' h1 hal h2 h => XT.PureE.mv r U U' V V' h1 hal h2 h) ?_
  intro p e s m args below meth c s₁ X0 hexec hbytes hml hret hlk hnm hown hh0 W hP
  obtain ⟨rfl, hx, hi, s1, hz, s3, rf⟩ := hP
  have v31 := hx.2.2.2.1.2.2.2
  have hr := hx.2.2.2.2.2 i hi
  have hx0 := hx.mv X0.warmed.alike hh0
  have c1 : Steps p.tables e below (s₁.setTop (entryFrame m #[.ref x, .int (Int32.ofNat i)] 2)) (s₁.setTop (mkF m 1 #[.val (.ref x), .val (.int (Int32.ofNat i))] [.ref x])) := Steps.trans (entry rfl) (by
    show Steps p.tables e below (s₁.setTop (mkF m 0 #[.val (.ref x), .val (.int (Int32.ofNat i))] [])) _
    refine XS.aloadN X0.here hexec rfl (hb hbytes d0) rfl rfl ?_
    exact Steps.refl _)
  obtain ⟨v2, T2, X2, E2, g2⟩ := X0.callV hexec (IsL.law l x 0 z) hown (wks W (virtW "java/lang/String" 492 "java/lang/String" IsL.yN IsL.yN)) rfl (by decide) (wk W IsL.tab) (W := 0) (Nat.le_of_ble_eq_true rfl) (Nat.le_of_ble_eq_true rfl) (Nat.le_refl _) (Nat.le_refl _) (hx0.1.fc X0.warmed.alike) hx0.1.is (g := (mkF m 1 #[.val (.ref x), .val (.int (Int32.ofNat i))] [.ref x])) rfl (by rw [hml]; rfl) c1 (argsL := []) (rest := []) rfl rfl (by show 2 * 0 + 0 ≤ _; decide) (hb hbytes d1) (⟨rfl, hx0.2.2.1, hx.2.2.2.2.1.cd, s1.there X0.warmed.alike hh0, hz⟩)
  obtain ⟨rfl, q2⟩ := E2
  have hh2 := q2.trans hh0
  have hx2 := hx.mv X2.warmed.alike hh2
  obtain ⟨-, k1, k2⟩ | ⟨k0, -⟩ := hx.2.2.2.2.1
  · have c3 : Steps p.tables e below (s₁.setTop (entryFrame m #[.ref x, .int (Int32.ofNat i)] 2)) (T2.setTop (mkF m 8 #[.val (.ref x), .val (.int (Int32.ofNat i))] [.ref x])) := Steps.trans g2 (by
      refine XS.ifNo X2.here hexec rfl (hb hbytes d4) rfl (i0_eq_f (by decide)) ?_
      refine XS.aloadN X2.here hexec rfl (hb hbytes d7) rfl rfl ?_
      exact Steps.refl _)
    obtain ⟨T4, X4, q4, st4⟩ := X2.hget hexec hown (wk W (.fieldLink "java/lang/String" 9 "java/lang/String" "value" "[B")) hx2.2.1 (g := (mkF m 8 #[.val (.ref x), .val (.int (Int32.ofNat i))] [.ref x])) rfl (rest := []) rfl (hb hbytes d8)
    have hh4 := q4.trans hh2
    have c5 : Steps p.tables e below (s₁.setTop (entryFrame m #[.ref x, .int (Int32.ofNat i)] 2)) (T4.setTop (mkF m 12 #[.val (.ref x), .val (.int (Int32.ofNat i))] [.int (Int32.ofNat i), .ref t])) := (c3.trans (st4 _ (Steps.refl _))).trans (by
      refine XS.iloadN X4.here hexec rfl (hb hbytes d11) rfl ?_
      exact Steps.refl _)
    obtain ⟨v6, T6, X6, E6, g6⟩ := X4.callS hexec (LChA.law l t V i (lo8 (f i)) fm) hown (wks W (staticW "java/lang/String" 495 LChA.yN)) (wk W LChA.tab) (W := 0) (Nat.le_of_ble_eq_true rfl) (Nat.le_of_ble_eq_true rfl) (Nat.le_refl _) (Nat.le_refl _) (g := (mkF m 12 #[.val (.ref x), .val (.int (Int32.ofNat i))] [.int (Int32.ofNat i), .ref t])) rfl (by rw [hml]; rfl) c5 (argsL := [.ref t, .int (Int32.ofNat i)]) (rest := []) rfl rfl (by show 2 * 0 + 0 ≤ _; decide) (hb hbytes d12) (⟨rfl, hx.2.2.2.1.mv X4.warmed.alike hh4, (k2 i hi).1, s3.there X4.warmed.alike hh4, rf⟩)
    obtain ⟨rfl, q6⟩ := E6
    rw [chr8_lo8 hr.1 (k2 i hi).2] at g6
    exact ⟨T6, some (.int (f i)), _, _, _, X6, rfl, rfl, rfl, (fun h => by cases h), ⟨rfl, q6.trans hh4⟩, fun fs hl => Steps.trans g6 (X6.ireturnOut hexec hret (narrow_ch hr.1 hr.2) (Or.inr (Or.inr (Or.inr (Or.inl rfl)))) (hb hbytes d15) hl)⟩
  · exact absurd k0 (by decide)
theorem pays {l : Launch} {R : Room} {p : Program} {e : Env} {below : List Frame} {s : State} {sargs : Array Value} {len W : Nat} (x t : Addr) (V : Cell) (n : Nat) (f : Nat → Int32) (z : Int32) (fm : Value) (i : Nat) (htab : tab.before sargs s = true) (hfr : 4 ≤ R.frames) (hlo : W + 53 ≤ R.locals) :
    Back l R p e below s sargs yN len W (fun A₁ a₁ => A₁.cells + 0 ≤ R.cells ∧ A₁.slots + 0 ≤ R.slots ∧ P x t V n f z fm i a₁ A₁.U) (fun A₁ _ v₁ B₁ => E f i v₁ A₁.U B₁.U ∧ B₁.locs = A₁.locs ++ [] ∧ B₁.cells = A₁.cells + 0 ∧ B₁.slots = A₁.slots + 0) :=
  (law l x t V n f z fm i).pays htab hfr (by omega)
end ChN
end StrChars
namespace StrChars.Road
open Jvm Sem ClassFile Op Lib Jvm.Stand Jvm.Free Jvm.Free.XT
open Jvm.Lib.Cold (StaticIs)
/-- the words of String.charAt(int), the Latin-1 road alone -/
abbrev wordsChN : List Jvm.Cond := [.code ChN.yN ChN.yB 2 (some .char), .initialized ST, .fieldLink ST 9 ST "value" "[B", .fieldLink ST 38 ST "COMPACT_STRINGS" "Z", .fieldLink ST 15 ST "coder" "B", .code IsL.yN IsL.yB 1 (some .boolean), .methodLink ST 492 IsL.yN, .declares IsL.yN, .selects ST IsL.yN IsL.yN, .instanceMethod IsL.yN,
  .methodLink ST 495 LChA.yN, .static LChA.yN, .code LChA.yN LChA.yB 2 (some .char), .initialized "java/lang/StringLatin1", .methodLink "java/lang/StringLatin1" 9 JO.Str_checkIndex.yN, .static JO.Str_checkIndex.yN, .code JO.Str_checkIndex.yN JO.Str_checkIndex.yB 2 none,
  .fieldLink ST 1053 "jdk/internal/util/Preconditions" "SIOOBE_FORMATTER" "Ljava/util/function/BiFunction;", .methodLink ST 1059 JC.PreCheck.yN, .static JC.PreCheck.yN, .code JC.PreCheck.yN JC.PreCheck.yB 3 (some .int), .initialized "jdk/internal/util/Preconditions"]
theorem tabChN_of {a : Array Value} {s : State} (h : ∀ w ∈ wordsChN, w.before a s = true) : ChN.tab.before a s = true := by
  have hp : JC.PreCheck.tab.before a s = true := unparts (wk h (.code JC.PreCheck.yN JC.PreCheck.yB 3 (some .int))) (wks h (.initialized JC.PreCheck.yN.cls :: JC.PreCheck.site))
  have qk := consq hp h
  have hk : JO.Str_checkIndex.tab.before a s = true := unparts (wk qk (.code JO.Str_checkIndex.yN JO.Str_checkIndex.yB 2 none)) (wks qk (.initialized JO.Str_checkIndex.yN.cls :: JO.Str_checkIndex.site))
  have ql := consq hk h
  have hl : LChA.tab.before a s = true := unparts (wk ql (.code LChA.yN LChA.yB 2 (some .char))) (wks ql (.initialized LChA.yN.cls :: LChA.site))
  have hi : IsL.tab.before a s = true := unparts (wk h (.code IsL.yN IsL.yB 1 (some .boolean))) (wks h (.initialized IsL.yN.cls :: IsL.site))
  have q := consq hi (consq hl h)
  exact unparts (wk q (.code ChN.yN ChN.yB 2 (some .char))) (wks q (.initialized ChN.yN.cls :: ChN.site))
theorem movedChN {Z s : State} {a0 args : Array Value} (hZ : Z.Warmed39 s.vm) (hw : ∀ d ∈ wordsChN, d.before a0 Z = true) : ∀ d ∈ wordsChN, d.before args s = true := fun d hd => by
  have t : ∀ d ∈ wordsChN, (d.onTables && d.keepsFace) = true := by decide +kernel
  exact RoadKit.mv hZ (hw d hd) (t d hd)
/-- **charAt(i) OF A LATIN-1 STRING**, i < n: the char -/
theorem chN {p : Program} {l : Launch} {e : Env} {R : Room} {s : State} {args : Array Value} {below : List Frame} {len W : Nat} {Z : State} {a0 : Array Value} {h : Heap} (hZ : Z.Warmed39 s.vm) (hw : ∀ d ∈ wordsChN, d.before a0 Z = true) {kI : Nat} (wi : (Jvm.Cond.instantiable ST kI).before a0 Z = true)
    {x t : Addr} {kb : ClassId} {cs : List Int32} {N2 z : Int32} {vs : List Value} {fm : Value} {i : Nat} {j : Int32} (E : RoadKit.Exa Z h x ST) (V : RoadKit.Fld Z h x ST "value" "[B" (.ref t)) (C : RoadKit.Fld Z h x ST "coder" "B" (.int 0)) (K : RoadKit.Arv Z h t kb .byte N2 vs (.int 0)) (hc : CodA cs 0 N2 vs) (hb : ∀ c ∈ cs, ¬ c < 0 ∧ ¬ (65535 : Int32) < c)
    (S : RoadKit.Sta Z h ST "COMPACT_STRINGS" "Z" (.int z)) (hz : ¬ z = 0) (F : RoadKit.Sta Z h "jdk/internal/util/Preconditions" "SIOOBE_FORMATTER" "Ljava/util/function/BiFunction;" fm) (rf : fm.isRef = true) (l2 : cs.length ≤ 4000) (hi : i < cs.length) (hj : j = Int32.ofNat i) (hfr : 4 ≤ R.frames) (hlo : W + 53 ≤ R.locals) :
    Back l R p e below s args (⟨"java/lang/String", "charAt", "(I)C"⟩ : MethodName) len W (fun P a => a = #[.ref x, .int j] ∧ P.U.heap = h ∧ P.cells + 0 ≤ R.cells ∧ P.slots + 0 ≤ R.slots)
      (fun P _ v B => ∃ L, (v = some (.int (cs.getD i 0)) ∧ L = [] ∧ B.U.heap = h) ∧ B.locs = P.locs ++ L ∧ B.cells = P.cells + 0 ∧ B.slots = P.slots + 0) := by
  subst hj
  intro m meth c P g ig mk a X hg hsize hdg hW hn hp'
  obtain ⟨rfl, rfl, r1, r2⟩ := hp'
  have al : Z.vm.Alike P.U.vm := hZ.alike.trans X.warmed.alike
  obtain ⟨A, hx⟩ := txt_of wi al E V C K hc hb l2
  obtain ⟨v, B, X', ⟨⟨hv, hh⟩, hl, hk, hs⟩, st⟩ := ChN.pays x t A cs.length (fun j => cs.getD j 0) z fm i (tabChN_of (movedChN hZ hw)) hfr hlo m meth c P g ig mk _ X hg hsize hdg hW hn ⟨r1, r2, rfl, hx, hi, sta_is al S, hz, sta_is al F, rf⟩
  exact ⟨v, B, X', ⟨[], ⟨hv, rfl, hh⟩, hl, hk, hs⟩, st⟩
/-- what backV says of its String, as the contracts of this text ask it: cs's low bytes, coder 0 -/
theorem codOf {cs : List Int32} {n : Nat} (hn : cs.length = n) (hb : ∀ c ∈ cs, ¬ 255 < c) : CodA cs 0 (Int32.ofNat n) ((cs.map lo8).map Value.int) := Or.inl ⟨rfl, by rw [hn], by simp [List.map_map, Function.comp_def], hb⟩
end StrChars.Road
end Jvm.Pilot.@@N@@
namespace Jvm.Pilot.@@N@@
open Jvm Jvm.ClassFile Sem Op Lib Jvm.Free Jvm.Stand Jvm.LawKit Jvm.RoadKit Jvm.OwnKit
/-- the object at a is a String of these chars -/
def SV (Z : State) (h : Heap) (a : Addr) (cs : List Int32) : Prop :=
  Exa Z h a "java/lang/String" ∧ ∃ (cd : Int32) (b : Addr) (kb : ClassId) (N2 : Int32) (vs : List Value), Fld Z h a "java/lang/String" "coder" "B" (.int cd) ∧ Fld Z h a "java/lang/String" "value" "[B" (.ref b) ∧ Arv Z h b kb .byte N2 vs (.int 0) ∧ StrChars.Road.CodA cs cd N2 vs ∧ (∀ c ∈ cs, ¬ c < 0 ∧ ¬ (65535 : Int32) < c) ∧ cs.length ≤ 4000
theorem SV.exa {Z : State} {h : Heap} {a : Addr} {cs : List Int32} (S : SV Z h a cs) : Exa Z h a "java/lang/String" := S.1
theorem SV.lt {Z : State} {h : Heap} {a : Addr} {cs : List Int32} (S : SV Z h a cs) : a < h.size := S.1.lt
theorem SV.ext {Z : State} {h h' : Heap} {a : Addr} {cs : List Int32} (S : SV Z h a cs) (E : Ext h h') : SV Z h' a cs := by
  obtain ⟨X, cd, b, kb, N2, vs, C, V, A, r⟩ := S
  exact ⟨X.ext E, cd, b, kb, N2, vs, C.ext E, V.ext E, A.ext E, r⟩
theorem SV.keepX {Z : State} {h h' : Heap} {a : Addr} {cs : List Int32} {ws : List Addr} (S : SV Z h a cs) (K : Keep h h' ws) (q : ∀ x ∈ ws, x ≠ a ∧ NB Z h x) : SV Z h' a cs := by
  obtain ⟨X, cd, b, kb, N2, vs, C, V, A, r⟩ := S
  have ha : a ∉ ws := fun z => (q a z).1 rfl
  have hb : b ∉ ws := fun z => by obtain ⟨c, A', -⟩ := A; exact (q b z).2 c A'
  exact ⟨X.keep K, cd, b, kb, N2, vs, C.keep K ha, V.keep K ha, A.keep K hb, r⟩
section Str
variable {p : Program} {l : Launch} {e : Env} {R : Room} {s : State} {args : Array Value} {below : List Frame} {len Wd : Nat} {Z : State} {a0 : Array Value} {h : Heap} {vm0 : Vm}
/-- new String(char[]) of one or more chars below 256 -/
theorem newS (hZ : Z.Warmed39 vm0) (hw : ∀ d ∈ StrChars.Road.words, d.before a0 Z = true) (wi : (Jvm.Cond.instantiable "java/lang/String" 4).before a0 Z = true) (O : Ext Z.heap h) {x b : Addr} {kC : ClassId} {cs : List Int32} {d v0 c0 : Value} {z N : Int32}
    (hx0 : Z.heap.size ≤ x) (E : Exa Z h x "java/lang/String") (V : Fld Z h x "java/lang/String" "value" "[B" v0) (C : Fld Z h x "java/lang/String" "coder" "B" c0) (K : Arv Z h b kC .char N (cs.map Value.int) d) (S : Sta Z Z.heap "java/lang/String" "COMPACT_STRINGS" "Z" (.int z)) (hz : ¬ z = 0)
    (n : Nat) (hn : cs.length = n) (hN : N = Int32.ofNat n) (l0 : 0 < n) (l2 : n ≤ 4000) (hp : ∀ c ∈ cs, C8 c) (hfr : 4 ≤ R.frames) (hlo : Wd + 65 ≤ R.locals) :
    Back l R p e below (s.setVm vm0) args (⟨"java/lang/String", "<init>", "([C)V"⟩ : MethodName) len Wd (PreB R #[.ref x, .ref b] h 1 n) (PostB Z h [x] (fun v h' => v = none ∧ SV Z h' x cs) 1 n) := by
  refine Back.mono (StrChars.Road.backV (s := s.setVm vm0) hZ hw wi (bs := cs.map (fun c => c.toInt8.toInt32)) hx0 O.1 E V C K (S.ext O) hz hn hN l0 l2 hp rfl hfr hlo) (fun _ _ q => q) (fun P a v B hp' hq => ?_)
  obtain ⟨L, ⟨q1, q2, q3, q4, q5, t, kb, -, -, -, q6, q7⟩, hl, hc, hs⟩ := hq
  exact ⟨L, ⟨q2, q3, q1, q4, 0, t, kb, N, _, q5, q6, q7, by rw [hN]; exact StrChars.Road.codOf hn (fun c hc => (hp c hc).2), fun c hc => (hp c hc).up, by omega⟩, hl, hc, hs⟩
end Str
end Jvm.Pilot.@@N@@
namespace Jvm.Pilot.@@N@@
open Jvm Jvm.ClassFile Sem Op Lib Jvm.Free Jvm.Stand Jvm.LawKit Jvm.RoadKit Jvm.OwnKit
theorem lenS {p : Program} {l : Launch} {e : Env} {R : Room} {s : State} {args : Array Value} {below : List Frame} {len Wd : Nat} {Z : State} {a0 : Array Value} {h : Heap} {vm0 : Vm} (hZ : Z.Warmed39 vm0) (hw : ∀ d ∈ StrChars.Road.wordsLen, d.before a0 Z = true) (wi : (Jvm.Cond.instantiable "java/lang/String" 4).before a0 Z = true) (O : Ext Z.heap h) {x : Addr} {cs : List Int32} {z : Int32}
    (S : SV Z h x cs) (hC : Sta Z Z.heap "java/lang/String" "COMPACT_STRINGS" "Z" (.int z)) (hz : ¬ z = 0) (hfr : 2 ≤ R.frames) (hlo : Wd + 25 ≤ R.locals) :
    Back l R p e below (s.setVm vm0) args (⟨"java/lang/String", "length", "()I"⟩ : MethodName) len Wd (PreB R #[.ref x] h 0 0) (PostB Z h [] (fun v h' => v = some (.int (Int32.ofNat cs.length)) ∧ h' = h) 0 0) := by
  obtain ⟨E, cd, b, kb, N2, vs, C, V, A, hc, hb, l2⟩ := S
  refine Back.mono (StrChars.Road.lenW (s := s.setVm vm0) hZ hw wi E V C A hc hb (hC.ext O) hz l2 hfr hlo) (fun _ _ q => q) (fun P a v B hp hq => ?_)
  obtain ⟨L, ⟨q1, q2, q3⟩, hl, hk, hs⟩ := hq
  exact ⟨L, ⟨by rw [q2]; exact Fr.nil _, by rw [q3]; exact Keep.refl _ _, q1, q3⟩, hl, hk, hs⟩
end Jvm.Pilot.@@N@@
namespace Jvm.Pilot.@@N@@
open Jvm Jvm.ClassFile Sem Op Lib Jvm.Free Jvm.Stand Jvm.LawKit Jvm.RoadKit Jvm.OwnKit
theorem chS {p : Program} {l : Launch} {e : Env} {R : Room} {s : State} {args : Array Value} {below : List Frame} {len Wd : Nat} {Z : State} {a0 : Array Value} {h : Heap} {vm0 : Vm} (hZ : Z.Warmed39 vm0) (hw : ∀ d ∈ StrChars.Road.wordsChN, d.before a0 Z = true) (wi : (Jvm.Cond.instantiable "java/lang/String" 4).before a0 Z = true) (O : Ext Z.heap h) {x : Addr} {cs : List Int32} {z : Int32} {fm : Value}
    (S : SV Z h x cs) (h8 : ∀ c ∈ cs, C8 c) (hC : Sta Z Z.heap "java/lang/String" "COMPACT_STRINGS" "Z" (.int z)) (hz : ¬ z = 0) (hF : Sta Z Z.heap "jdk/internal/util/Preconditions" "SIOOBE_FORMATTER" "Ljava/util/function/BiFunction;" fm) (rf : fm.isRef = true) (i : Nat) (hi : i < cs.length) {j : Int32} (hj : j = Int32.ofNat i) (hfr : 4 ≤ R.frames) (hlo : Wd + 53 ≤ R.locals) :
    Back l R p e below (s.setVm vm0) args (⟨"java/lang/String", "charAt", "(I)C"⟩ : MethodName) len Wd (PreB R #[.ref x, .int j] h 0 0) (PostB Z h [] (fun v h' => v = some (.int (cs.getD i 0)) ∧ h' = h) 0 0) := by
  obtain ⟨E, cd, b, kb, N2, vs, C, V, A, hc, hb, l2⟩ := S
  have hcd : cd = 0 := by
    rcases hc with ⟨q, -⟩ | ⟨-, -, -, c, hc1, hc2⟩
    · exact q
    · exact absurd hc2 (h8 c hc1).2
  subst hcd
  refine Back.mono (StrChars.Road.chN (s := s.setVm vm0) hZ hw wi E V C A hc hb (hC.ext O) hz (hF.ext O) rf l2 hi hj hfr hlo) (fun _ _ q => q) (fun P a v B hp hq => ?_)
  obtain ⟨L, ⟨q1, q2, q3⟩, hl, hk, hs⟩ := hq
  exact ⟨L, ⟨by rw [q2]; exact Fr.nil _, by rw [q3]; exact Keep.refl _ _, q1, q3⟩, hl, hk, hs⟩
end Jvm.Pilot.@@N@@
namespace Jvm.Pilot.@@N@@
open Jvm Jvm.ClassFile Sem Op Lib Jvm.Free Jvm.Stand Jvm.LawKit Jvm.RoadKit Jvm.OwnKit
/-- a String of chars below 256: its bytes -/
theorem SV.lat {Z : State} {h : Heap} {a : Addr} {cs : List Int32} (S : SV Z h a cs) (h8 : ∀ c ∈ cs, C8 c) : ∃ (b : Addr) (kb : ClassId), Fld Z h a "java/lang/String" "coder" "B" (.int 0) ∧ Fld Z h a "java/lang/String" "value" "[B" (.ref b) ∧ Arv Z h b kb .byte (Int32.ofNat cs.length) ((cs.map OwnKit.i2b).map Value.int) (.int 0) ∧ cs.length ≤ 4000 := by
  obtain ⟨X, cd, b, kb, N2, vs, C, V, A, r, c16, ln⟩ := S
  rcases r with ⟨rfl, rfl, rfl, -⟩ | ⟨-, -, -, c, hc, q⟩
  · refine ⟨b, kb, C, V, ?_, ln⟩
    rw [List.map_map]; exact A
  · exact absurd q (h8 c hc).2
theorem SV.ofLat {Z : State} {h : Heap} {a b : Addr} {kb : ClassId} {n : Int32} {cs : List Int32} (X : Exa Z h a "java/lang/String") (V : Fld Z h a "java/lang/String" "value" "[B" (.ref b)) (C : Fld Z h a "java/lang/String" "coder" "B" (.int 0)) (A : Arv Z h b kb .byte n ((cs.map OwnKit.i2b).map Value.int) (.int 0)) (hn : n = Int32.ofNat cs.length) (h8 : ∀ c ∈ cs, C8 c) (hl : cs.length ≤ 4000) : SV Z h a cs := by
  rw [List.map_map] at A
  exact ⟨X, 0, b, kb, n, _, C, V, A, Or.inl ⟨rfl, hn, rfl, fun c hc => (h8 c hc).2⟩, fun c hc => (h8 c hc).up, hl⟩
end Jvm.Pilot.@@N@@
namespace Jvm.Pilot.@@N@@
open Jvm Jvm.ClassFile Sem Op Lib Jvm.Free Jvm.Stand Jvm.LawKit Jvm.RoadKit Jvm.OwnKit Bundle Jvm.Pilot.@@N@@.Jvm.D
theorem wd {a0 : Array Value} {Z : State} (hw : ∀ d ∈ tables_1, d.before a0 Z = true) (k : Nat) {d : Jvm.Cond} (h : tables_1[k]? = some d) : d.before a0 Z = true := hw _ (List.mem_of_getElem? h)
theorem wsNew {a0 : Array Value} {Z : State} (hw : ∀ d ∈ tables_1, d.before a0 Z = true) : ∀ d ∈ StrChars.Road.words, d.before a0 Z = true := fun d hd => hw d ((by decide +kernel : ∀ d ∈ StrChars.Road.words, d ∈ tables_1) d hd)
theorem wsLen {a0 : Array Value} {Z : State} (hw : ∀ d ∈ tables_1, d.before a0 Z = true) : ∀ d ∈ StrChars.Road.wordsLen, d.before a0 Z = true := fun d hd => hw d ((by decide +kernel : ∀ d ∈ StrChars.Road.wordsLen, d ∈ tables_1) d hd)
theorem wsCh {a0 : Array Value} {Z : State} (hw : ∀ d ∈ tables_1, d.before a0 Z = true) : ∀ d ∈ StrChars.Road.wordsChN, d.before a0 Z = true := fun d hd => hw d ((by decide +kernel : ∀ d ∈ StrChars.Road.wordsChN, d ∈ tables_1) d hd)
theorem elw {a0 : Array Value} {Z : State} (hw : ∀ d ∈ tables_1, d.before a0 Z = true) : EW Z a0 consts_1 := EW.cons (wd hw 14 rfl) (by decide) (EW.nil)
theorem wsStr {a0 : Array Value} {Z : State} (hw : ∀ d ∈ tables_1, d.before a0 Z = true) : ∀ d ∈ Bundle.stringAtoms, d.before a0 Z = true := fun d hd => hw d ((by decide +kernel : ∀ d ∈ Bundle.stringAtoms, d ∈ tables_1) d hd)
theorem pn0 : plainName "java/lang/String" = true := by first | (simp [plainName, overriddenIn]; done) | decide +kernel
theorem pn1 : plainName "java/lang/Record" = true := by first | (simp [plainName, overriddenIn]; done) | decide +kernel
theorem pn2 : plainName "java/lang/StringUTF16" = true := by first | (simp [plainName, overriddenIn]; done) | decide +kernel
theorem pn3 : plainName "jdk/internal/util/Preconditions" = true := by first | (simp [plainName, overriddenIn]; done) | decide +kernel
theorem pn4 : plainName "com/example/nuntius/nuntius/http/ParameterValue" = true := by first | (simp [plainName, overriddenIn]; done) | decide +kernel
theorem pn5 : plainName "com/example/nuntius/nuntius/http/ParameterValueOfPinLaw" = true := by first | (simp [plainName, overriddenIn]; done) | decide +kernel
theorem d1_0 : decode jdk_42_method_3_code 0 = .ok (.aload_n 0, 1) := by decide +kernel
theorem d1_1 : decode jdk_42_method_3_code 1 = .ok (.aload_n 1, 1) := by decide +kernel
theorem d1_2 : decode jdk_42_method_3_code 2 = .ok (.iconst 0, 1) := by decide +kernel
theorem d1_3 : decode jdk_42_method_3_code 3 = .ok (.aload_n 1, 1) := by decide +kernel
theorem d1_4 : decode jdk_42_method_3_code 4 = .ok (.arraylength, 1) := by decide +kernel
theorem d1_5 : decode jdk_42_method_3_code 5 = .ok (.aconst_null, 1) := by decide +kernel
theorem d1_6 : decode jdk_42_method_3_code 6 = .ok (.invokespecial 27, 3) := by decide +kernel
theorem d1_9 : decode jdk_42_method_3_code 9 = .ok (.return_, 1) := by decide +kernel
theorem d2_0 : decode jdk_42_method_149_code 0 = .ok (.aload_n 0, 1) := by decide +kernel
theorem d2_1 : decode jdk_42_method_149_code 1 = .ok (.invokespecial 1, 3) := by decide +kernel
theorem d2_4 : decode jdk_42_method_149_code 4 = .ok (.iload_n 3, 1) := by decide +kernel
theorem d2_5 : decode jdk_42_method_149_code 5 = .ok (.ifCond .ne 22, 3) := by decide +kernel
theorem d2_8 : decode jdk_42_method_149_code 8 = .ok (.aload_n 0, 1) := by decide +kernel
theorem d2_9 : decode jdk_42_method_149_code 9 = .ok (.ldc 7, 2) := by decide +kernel
theorem d2_11 : decode jdk_42_method_149_code 11 = .ok (.getfield 9, 3) := by decide +kernel
theorem d2_14 : decode jdk_42_method_149_code 14 = .ok (.putfield 9, 3) := by decide +kernel
theorem d2_17 : decode jdk_42_method_149_code 17 = .ok (.aload_n 0, 1) := by decide +kernel
theorem d2_18 : decode jdk_42_method_149_code 18 = .ok (.ldc 7, 2) := by decide +kernel
theorem d2_20 : decode jdk_42_method_149_code 20 = .ok (.getfield 15, 3) := by decide +kernel
theorem d2_23 : decode jdk_42_method_149_code 23 = .ok (.putfield 15, 3) := by decide +kernel
theorem d2_26 : decode jdk_42_method_149_code 26 = .ok (.return_, 1) := by decide +kernel
theorem d2_27 : decode jdk_42_method_149_code 27 = .ok (.getstatic 38, 3) := by decide +kernel
theorem d2_30 : decode jdk_42_method_149_code 30 = .ok (.ifCond .eq 28, 3) := by decide +kernel
theorem d2_33 : decode jdk_42_method_149_code 33 = .ok (.aload_n 1, 1) := by decide +kernel
theorem d2_34 : decode jdk_42_method_149_code 34 = .ok (.iload_n 2, 1) := by decide +kernel
theorem d2_35 : decode jdk_42_method_149_code 35 = .ok (.iload_n 3, 1) := by decide +kernel
theorem d2_36 : decode jdk_42_method_149_code 36 = .ok (.invokestatic 177, 3) := by decide +kernel
theorem d2_39 : decode jdk_42_method_149_code 39 = .ok (.astore 5, 2) := by decide +kernel
theorem d2_41 : decode jdk_42_method_149_code 41 = .ok (.aload_n 0, 1) := by decide +kernel
theorem d2_42 : decode jdk_42_method_149_code 42 = .ok (.aload 5, 2) := by decide +kernel
theorem d2_44 : decode jdk_42_method_149_code 44 = .ok (.iload_n 3, 1) := by decide +kernel
theorem d2_45 : decode jdk_42_method_149_code 45 = .ok (.invokestatic 47, 3) := by decide +kernel
theorem d2_48 : decode jdk_42_method_149_code 48 = .ok (.putfield 15, 3) := by decide +kernel
theorem d2_51 : decode jdk_42_method_149_code 51 = .ok (.aload_n 0, 1) := by decide +kernel
theorem d2_52 : decode jdk_42_method_149_code 52 = .ok (.aload 5, 2) := by decide +kernel
theorem d2_54 : decode jdk_42_method_149_code 54 = .ok (.putfield 9, 3) := by decide +kernel
theorem d2_57 : decode jdk_42_method_149_code 57 = .ok (.return_, 1) := by decide +kernel
theorem d4_0 : decode prog_15_method_2_code 0 = .ok (.new 8, 3) := by decide +kernel
theorem d4_3 : decode prog_15_method_2_code 3 = .ok (.dup, 1) := by decide +kernel
theorem d4_4 : decode prog_15_method_2_code 4 = .ok (.getstatic 17, 3) := by decide +kernel
theorem d4_7 : decode prog_15_method_2_code 7 = .ok (.aload_n 0, 1) := by decide +kernel
theorem d4_8 : decode prog_15_method_2_code 8 = .ok (.invokespecial 22, 3) := by decide +kernel
theorem d4_11 : decode prog_15_method_2_code 11 = .ok (.areturn, 1) := by decide +kernel
theorem d5_0 : decode prog_15_method_1_code 0 = .ok (.aload_n 0, 1) := by decide +kernel
theorem d5_1 : decode prog_15_method_1_code 1 = .ok (.invokespecial 1, 3) := by decide +kernel
theorem d5_4 : decode prog_15_method_1_code 4 = .ok (.aload_n 0, 1) := by decide +kernel
theorem d5_5 : decode prog_15_method_1_code 5 = .ok (.aload_n 1, 1) := by decide +kernel
theorem d5_6 : decode prog_15_method_1_code 6 = .ok (.putfield 7, 3) := by decide +kernel
theorem d5_9 : decode prog_15_method_1_code 9 = .ok (.aload_n 0, 1) := by decide +kernel
theorem d5_10 : decode prog_15_method_1_code 10 = .ok (.aload_n 2, 1) := by decide +kernel
theorem d5_11 : decode prog_15_method_1_code 11 = .ok (.putfield 13, 3) := by decide +kernel
theorem d5_14 : decode prog_15_method_1_code 14 = .ok (.return_, 1) := by decide +kernel
theorem d6_0 : decode jdk_30_method_1_code 0 = .ok (.aload_n 0, 1) := by decide +kernel
theorem d6_1 : decode jdk_30_method_1_code 1 = .ok (.invokespecial 1, 3) := by decide +kernel
theorem d6_4 : decode jdk_30_method_1_code 4 = .ok (.return_, 1) := by decide +kernel
theorem d7_0 : decode prog_15_method_7_code 0 = .ok (.aload_n 0, 1) := by decide +kernel
theorem d7_1 : decode prog_15_method_7_code 1 = .ok (.getfield 7, 3) := by decide +kernel
theorem d7_4 : decode prog_15_method_7_code 4 = .ok (.areturn, 1) := by decide +kernel
theorem d8_0 : decode prog_15_method_8_code 0 = .ok (.aload_n 0, 1) := by decide +kernel
theorem d8_1 : decode prog_15_method_8_code 1 = .ok (.getfield 13, 3) := by decide +kernel
theorem d8_4 : decode prog_15_method_8_code 4 = .ok (.areturn, 1) := by decide +kernel
theorem d9_0 : decode jdk_42_method_54_code 0 = .ok (.aload_n 0, 1) := by decide +kernel
theorem d9_1 : decode jdk_42_method_54_code 1 = .ok (.getfield 9, 3) := by decide +kernel
theorem d9_4 : decode jdk_42_method_54_code 4 = .ok (.arraylength, 1) := by decide +kernel
theorem d9_5 : decode jdk_42_method_54_code 5 = .ok (.aload_n 0, 1) := by decide +kernel
theorem d9_6 : decode jdk_42_method_54_code 6 = .ok (.invokevirtual 335, 3) := by decide +kernel
theorem d9_9 : decode jdk_42_method_54_code 9 = .ok (.ishr, 1) := by decide +kernel
theorem d9_10 : decode jdk_42_method_54_code 10 = .ok (.ireturn, 1) := by decide +kernel
theorem d10_0 : decode jdk_42_method_152_code 0 = .ok (.getstatic 38, 3) := by decide +kernel
theorem d10_3 : decode jdk_42_method_152_code 3 = .ok (.ifCond .eq 10, 3) := by decide +kernel
theorem d10_6 : decode jdk_42_method_152_code 6 = .ok (.aload_n 0, 1) := by decide +kernel
theorem d10_7 : decode jdk_42_method_152_code 7 = .ok (.getfield 15, 3) := by decide +kernel
theorem d10_10 : decode jdk_42_method_152_code 10 = .ok (.goto 4, 3) := by decide +kernel
theorem d10_14 : decode jdk_42_method_152_code 14 = .ok (.ireturn, 1) := by decide +kernel
theorem d11_0 : decode jdk_52_method_16_code 0 = .ok (.iload_n 2, 1) := by decide +kernel
theorem d11_1 : decode jdk_52_method_16_code 1 = .ok (.newarray .byte, 2) := by decide +kernel
theorem d11_3 : decode jdk_52_method_16_code 3 = .ok (.astore_n 3, 1) := by decide +kernel
theorem d11_4 : decode jdk_52_method_16_code 4 = .ok (.aload_n 0, 1) := by decide +kernel
theorem d11_5 : decode jdk_52_method_16_code 5 = .ok (.iload_n 1, 1) := by decide +kernel
theorem d11_6 : decode jdk_52_method_16_code 6 = .ok (.aload_n 3, 1) := by decide +kernel
theorem d11_7 : decode jdk_52_method_16_code 7 = .ok (.iconst 0, 1) := by decide +kernel
theorem d11_8 : decode jdk_52_method_16_code 8 = .ok (.iload_n 2, 1) := by decide +kernel
theorem d11_9 : decode jdk_52_method_16_code 9 = .ok (.invokestatic 115, 3) := by decide +kernel
theorem d11_12 : decode jdk_52_method_16_code 12 = .ok (.istore 4, 2) := by decide +kernel
theorem d11_14 : decode jdk_52_method_16_code 14 = .ok (.iload 4, 2) := by decide +kernel
theorem d11_16 : decode jdk_52_method_16_code 16 = .ok (.iload_n 2, 1) := by decide +kernel
theorem d11_17 : decode jdk_52_method_16_code 17 = .ok (.if_icmp .eq 40, 3) := by decide +kernel
theorem d11_20 : decode jdk_52_method_16_code 20 = .ok (.aload_n 0, 1) := by decide +kernel
theorem d11_21 : decode jdk_52_method_16_code 21 = .ok (.iload_n 1, 1) := by decide +kernel
theorem d11_22 : decode jdk_52_method_16_code 22 = .ok (.iload_n 2, 1) := by decide +kernel
theorem d11_23 : decode jdk_52_method_16_code 23 = .ok (.invokestatic 119, 3) := by decide +kernel
theorem d11_26 : decode jdk_52_method_16_code 26 = .ok (.astore 5, 2) := by decide +kernel
theorem d11_28 : decode jdk_52_method_16_code 28 = .ok (.aload 5, 2) := by decide +kernel
theorem d11_30 : decode jdk_52_method_16_code 30 = .ok (.iload 4, 2) := by decide +kernel
theorem d11_32 : decode jdk_52_method_16_code 32 = .ok (.invokestatic 71, 3) := by decide +kernel
theorem d11_35 : decode jdk_52_method_16_code 35 = .ok (.sipush 255, 3) := by decide +kernel
theorem d11_38 : decode jdk_52_method_16_code 38 = .ok (.if_icmp .gt 16, 3) := by decide +kernel
theorem d11_54 : decode jdk_52_method_16_code 54 = .ok (.aload 5, 2) := by decide +kernel
theorem d11_56 : decode jdk_52_method_16_code 56 = .ok (.areturn, 1) := by decide +kernel
theorem d12_0 : decode jdk_52_method_21_code 0 = .ok (.iconst 0, 1) := by decide +kernel
theorem d12_1 : decode jdk_52_method_21_code 1 = .ok (.istore 5, 2) := by decide +kernel
theorem d12_3 : decode jdk_52_method_21_code 3 = .ok (.iload 5, 2) := by decide +kernel
theorem d12_5 : decode jdk_52_method_21_code 5 = .ok (.iload 4, 2) := by decide +kernel
theorem d12_7 : decode jdk_52_method_21_code 7 = .ok (.if_icmp .ge 37, 3) := by decide +kernel
theorem d12_10 : decode jdk_52_method_21_code 10 = .ok (.aload_n 0, 1) := by decide +kernel
theorem d12_11 : decode jdk_52_method_21_code 11 = .ok (.iload_n 1, 1) := by decide +kernel
theorem d12_12 : decode jdk_52_method_21_code 12 = .ok (.caload, 1) := by decide +kernel
theorem d12_13 : decode jdk_52_method_21_code 13 = .ok (.istore 6, 2) := by decide +kernel
theorem d12_15 : decode jdk_52_method_21_code 15 = .ok (.iload 6, 2) := by decide +kernel
theorem d12_17 : decode jdk_52_method_21_code 17 = .ok (.sipush 255, 3) := by decide +kernel
theorem d12_20 : decode jdk_52_method_21_code 20 = .ok (.if_icmp .le 6, 3) := by decide +kernel
theorem d12_23 : decode jdk_52_method_21_code 23 = .ok (.iload 5, 2) := by decide +kernel
theorem d12_25 : decode jdk_52_method_21_code 25 = .ok (.ireturn, 1) := by decide +kernel
theorem d12_26 : decode jdk_52_method_21_code 26 = .ok (.aload_n 2, 1) := by decide +kernel
theorem d12_27 : decode jdk_52_method_21_code 27 = .ok (.iload_n 3, 1) := by decide +kernel
theorem d12_28 : decode jdk_52_method_21_code 28 = .ok (.iload 6, 2) := by decide +kernel
theorem d12_30 : decode jdk_52_method_21_code 30 = .ok (.i2b, 1) := by decide +kernel
theorem d12_31 : decode jdk_52_method_21_code 31 = .ok (.bastore, 1) := by decide +kernel
theorem d12_32 : decode jdk_52_method_21_code 32 = .ok (.iinc 1 1, 3) := by decide +kernel
theorem d12_35 : decode jdk_52_method_21_code 35 = .ok (.iinc 3 1, 3) := by decide +kernel
theorem d12_38 : decode jdk_52_method_21_code 38 = .ok (.iinc 5 1, 3) := by decide +kernel
theorem d12_41 : decode jdk_52_method_21_code 41 = .ok (.goto (-38), 3) := by decide +kernel
theorem d12_44 : decode jdk_52_method_21_code 44 = .ok (.iload 4, 2) := by decide +kernel
theorem d12_46 : decode jdk_52_method_21_code 46 = .ok (.ireturn, 1) := by decide +kernel
theorem d13_0 : decode jdk_52_method_15_code 0 = .ok (.iload_n 1, 1) := by decide +kernel
theorem d13_1 : decode jdk_52_method_15_code 1 = .ok (.aload_n 0, 1) := by decide +kernel
theorem d13_2 : decode jdk_52_method_15_code 2 = .ok (.arraylength, 1) := by decide +kernel
theorem d13_3 : decode jdk_52_method_15_code 3 = .ok (.isub, 1) := by decide +kernel
theorem d13_4 : decode jdk_52_method_15_code 4 = .ok (.bipush 31, 2) := by decide +kernel
theorem d13_6 : decode jdk_52_method_15_code 6 = .ok (.iushr, 1) := by decide +kernel
theorem d13_7 : decode jdk_52_method_15_code 7 = .ok (.i2b, 1) := by decide +kernel
theorem d13_8 : decode jdk_52_method_15_code 8 = .ok (.ireturn, 1) := by decide +kernel
theorem d14_0 : decode jdk_42_method_56_code 0 = .ok (.aload_n 0, 1) := by decide +kernel
theorem d14_1 : decode jdk_42_method_56_code 1 = .ok (.invokevirtual 492, 3) := by decide +kernel
theorem d14_4 : decode jdk_42_method_56_code 4 = .ok (.ifCond .eq 12, 3) := by decide +kernel
theorem d14_16 : decode jdk_42_method_56_code 16 = .ok (.aload_n 0, 1) := by decide +kernel
theorem d14_17 : decode jdk_42_method_56_code 17 = .ok (.getfield 9, 3) := by decide +kernel
theorem d14_20 : decode jdk_42_method_56_code 20 = .ok (.iload_n 1, 1) := by decide +kernel
theorem d14_21 : decode jdk_42_method_56_code 21 = .ok (.invokestatic 498, 3) := by decide +kernel
theorem d14_24 : decode jdk_42_method_56_code 24 = .ok (.ireturn, 1) := by decide +kernel
theorem d15_0 : decode jdk_42_method_154_code 0 = .ok (.getstatic 38, 3) := by decide +kernel
theorem d15_3 : decode jdk_42_method_154_code 3 = .ok (.ifCond .eq 14, 3) := by decide +kernel
theorem d15_6 : decode jdk_42_method_154_code 6 = .ok (.aload_n 0, 1) := by decide +kernel
theorem d15_7 : decode jdk_42_method_154_code 7 = .ok (.getfield 15, 3) := by decide +kernel
theorem d15_10 : decode jdk_42_method_154_code 10 = .ok (.ifCond .ne 7, 3) := by decide +kernel
theorem d15_17 : decode jdk_42_method_154_code 17 = .ok (.iconst 0, 1) := by decide +kernel
theorem d15_18 : decode jdk_42_method_154_code 18 = .ok (.ireturn, 1) := by decide +kernel
theorem d17_0 : decode jdk_42_method_155_code 0 = .ok (.iload_n 0, 1) := by decide +kernel
theorem d17_1 : decode jdk_42_method_155_code 1 = .ok (.iload_n 1, 1) := by decide +kernel
theorem d17_2 : decode jdk_42_method_155_code 2 = .ok (.getstatic 1053, 3) := by decide +kernel
theorem d17_5 : decode jdk_42_method_155_code 5 = .ok (.invokestatic 1059, 3) := by decide +kernel
theorem d17_8 : decode jdk_42_method_155_code 8 = .ok (.pop, 1) := by decide +kernel
theorem d17_9 : decode jdk_42_method_155_code 9 = .ok (.return_, 1) := by decide +kernel
theorem d18_0 : decode jdk_41_method_11_code 0 = .ok (.iload_n 0, 1) := by decide +kernel
theorem d18_1 : decode jdk_41_method_11_code 1 = .ok (.ifCond .lt 8, 3) := by decide +kernel
theorem d18_4 : decode jdk_41_method_11_code 4 = .ok (.iload_n 0, 1) := by decide +kernel
theorem d18_5 : decode jdk_41_method_11_code 5 = .ok (.iload_n 1, 1) := by decide +kernel
theorem d18_6 : decode jdk_41_method_11_code 6 = .ok (.if_icmp .lt 10, 3) := by decide +kernel
theorem d18_16 : decode jdk_41_method_11_code 16 = .ok (.iload_n 0, 1) := by decide +kernel
theorem d18_17 : decode jdk_41_method_11_code 17 = .ok (.ireturn, 1) := by decide +kernel
theorem d19_0 : decode jdk_52_method_14_code 0 = .ok (.iload_n 2, 1) := by decide +kernel
theorem d19_1 : decode jdk_52_method_14_code 1 = .ok (.invokestatic 107, 3) := by decide +kernel
theorem d19_4 : decode jdk_52_method_14_code 4 = .ok (.astore_n 3, 1) := by decide +kernel
theorem d19_5 : decode jdk_52_method_14_code 5 = .ok (.iconst 0, 1) := by decide +kernel
theorem d19_6 : decode jdk_52_method_14_code 6 = .ok (.istore 4, 2) := by decide +kernel
theorem d19_8 : decode jdk_52_method_14_code 8 = .ok (.iload 4, 2) := by decide +kernel
theorem d19_10 : decode jdk_52_method_14_code 10 = .ok (.iload_n 2, 1) := by decide +kernel
theorem d19_11 : decode jdk_52_method_14_code 11 = .ok (.if_icmp .ge 21, 3) := by decide +kernel
theorem d19_14 : decode jdk_52_method_14_code 14 = .ok (.aload_n 3, 1) := by decide +kernel
theorem d19_15 : decode jdk_52_method_14_code 15 = .ok (.iload 4, 2) := by decide +kernel
theorem d19_17 : decode jdk_52_method_14_code 17 = .ok (.aload_n 0, 1) := by decide +kernel
theorem d19_18 : decode jdk_52_method_14_code 18 = .ok (.iload_n 1, 1) := by decide +kernel
theorem d19_19 : decode jdk_52_method_14_code 19 = .ok (.caload, 1) := by decide +kernel
theorem d19_20 : decode jdk_52_method_14_code 20 = .ok (.invokestatic 111, 3) := by decide +kernel
theorem d19_23 : decode jdk_52_method_14_code 23 = .ok (.iinc 1 1, 3) := by decide +kernel
theorem d19_26 : decode jdk_52_method_14_code 26 = .ok (.iinc 4 1, 3) := by decide +kernel
theorem d19_29 : decode jdk_52_method_14_code 29 = .ok (.goto (-21), 3) := by decide +kernel
theorem d19_32 : decode jdk_52_method_14_code 32 = .ok (.aload_n 3, 1) := by decide +kernel
theorem d19_33 : decode jdk_52_method_14_code 33 = .ok (.areturn, 1) := by decide +kernel
theorem d20_0 : decode jdk_52_method_2_code 0 = .ok (.iload_n 0, 1) := by decide +kernel
theorem d20_1 : decode jdk_52_method_2_code 1 = .ok (.invokestatic 11, 3) := by decide +kernel
theorem d20_4 : decode jdk_52_method_2_code 4 = .ok (.newarray .byte, 2) := by decide +kernel
theorem d20_6 : decode jdk_52_method_2_code 6 = .ok (.areturn, 1) := by decide +kernel
theorem d21_0 : decode jdk_52_method_3_code 0 = .ok (.iload_n 0, 1) := by decide +kernel
theorem d21_1 : decode jdk_52_method_3_code 1 = .ok (.ifCond .ge 11, 3) := by decide +kernel
theorem d21_12 : decode jdk_52_method_3_code 12 = .ok (.iload_n 0, 1) := by decide +kernel
theorem d21_13 : decode jdk_52_method_3_code 13 = .ok (.ldc 20, 2) := by decide +kernel
theorem d21_15 : decode jdk_52_method_3_code 15 = .ok (.if_icmp .lt 40, 3) := by decide +kernel
theorem d21_55 : decode jdk_52_method_3_code 55 = .ok (.iload_n 0, 1) := by decide +kernel
theorem d21_56 : decode jdk_52_method_3_code 56 = .ok (.iconst 1, 1) := by decide +kernel
theorem d21_57 : decode jdk_52_method_3_code 57 = .ok (.ishl, 1) := by decide +kernel
theorem d21_58 : decode jdk_52_method_3_code 58 = .ok (.ireturn, 1) := by decide +kernel
theorem d22_0 : decode jdk_52_method_4_code 0 = .ok (.getstatic 44, 3) := by decide +kernel
theorem d22_3 : decode jdk_52_method_4_code 3 = .ok (.ifCond .ne 25, 3) := by decide +kernel
theorem d22_28 : decode jdk_52_method_4_code 28 = .ok (.iload_n 1, 1) := by decide +kernel
theorem d22_29 : decode jdk_52_method_4_code 29 = .ok (.iconst 1, 1) := by decide +kernel
theorem d22_30 : decode jdk_52_method_4_code 30 = .ok (.ishl, 1) := by decide +kernel
theorem d22_31 : decode jdk_52_method_4_code 31 = .ok (.istore_n 1, 1) := by decide +kernel
theorem d22_32 : decode jdk_52_method_4_code 32 = .ok (.aload_n 0, 1) := by decide +kernel
theorem d22_33 : decode jdk_52_method_4_code 33 = .ok (.iload_n 1, 1) := by decide +kernel
theorem d22_34 : decode jdk_52_method_4_code 34 = .ok (.iinc 1 1, 3) := by decide +kernel
theorem d22_37 : decode jdk_52_method_4_code 37 = .ok (.iload_n 2, 1) := by decide +kernel
theorem d22_38 : decode jdk_52_method_4_code 38 = .ok (.getstatic 59, 3) := by decide +kernel
theorem d22_41 : decode jdk_52_method_4_code 41 = .ok (.ishr, 1) := by decide +kernel
theorem d22_42 : decode jdk_52_method_4_code 42 = .ok (.i2b, 1) := by decide +kernel
theorem d22_43 : decode jdk_52_method_4_code 43 = .ok (.bastore, 1) := by decide +kernel
theorem d22_44 : decode jdk_52_method_4_code 44 = .ok (.aload_n 0, 1) := by decide +kernel
theorem d22_45 : decode jdk_52_method_4_code 45 = .ok (.iload_n 1, 1) := by decide +kernel
theorem d22_46 : decode jdk_52_method_4_code 46 = .ok (.iload_n 2, 1) := by decide +kernel
theorem d22_47 : decode jdk_52_method_4_code 47 = .ok (.getstatic 63, 3) := by decide +kernel
theorem d22_50 : decode jdk_52_method_4_code 50 = .ok (.ishr, 1) := by decide +kernel
theorem d22_51 : decode jdk_52_method_4_code 51 = .ok (.i2b, 1) := by decide +kernel
theorem d22_52 : decode jdk_52_method_4_code 52 = .ok (.bastore, 1) := by decide +kernel
theorem d22_53 : decode jdk_52_method_4_code 53 = .ok (.return_, 1) := by decide +kernel
theorem d23_0 : decode jdk_52_method_5_code 0 = .ok (.getstatic 44, 3) := by decide +kernel
theorem d23_3 : decode jdk_52_method_5_code 3 = .ok (.ifCond .ne 25, 3) := by decide +kernel
theorem d23_28 : decode jdk_52_method_5_code 28 = .ok (.iload_n 1, 1) := by decide +kernel
theorem d23_29 : decode jdk_52_method_5_code 29 = .ok (.iconst 1, 1) := by decide +kernel
theorem d23_30 : decode jdk_52_method_5_code 30 = .ok (.ishl, 1) := by decide +kernel
theorem d23_31 : decode jdk_52_method_5_code 31 = .ok (.istore_n 1, 1) := by decide +kernel
theorem d23_32 : decode jdk_52_method_5_code 32 = .ok (.aload_n 0, 1) := by decide +kernel
theorem d23_33 : decode jdk_52_method_5_code 33 = .ok (.iload_n 1, 1) := by decide +kernel
theorem d23_34 : decode jdk_52_method_5_code 34 = .ok (.iinc 1 1, 3) := by decide +kernel
theorem d23_37 : decode jdk_52_method_5_code 37 = .ok (.baload, 1) := by decide +kernel
theorem d23_38 : decode jdk_52_method_5_code 38 = .ok (.sipush 255, 3) := by decide +kernel
theorem d23_41 : decode jdk_52_method_5_code 41 = .ok (.iand, 1) := by decide +kernel
theorem d23_42 : decode jdk_52_method_5_code 42 = .ok (.getstatic 59, 3) := by decide +kernel
theorem d23_45 : decode jdk_52_method_5_code 45 = .ok (.ishl, 1) := by decide +kernel
theorem d23_46 : decode jdk_52_method_5_code 46 = .ok (.aload_n 0, 1) := by decide +kernel
theorem d23_47 : decode jdk_52_method_5_code 47 = .ok (.iload_n 1, 1) := by decide +kernel
theorem d23_48 : decode jdk_52_method_5_code 48 = .ok (.baload, 1) := by decide +kernel
theorem d23_49 : decode jdk_52_method_5_code 49 = .ok (.sipush 255, 3) := by decide +kernel
theorem d23_52 : decode jdk_52_method_5_code 52 = .ok (.iand, 1) := by decide +kernel
theorem d23_53 : decode jdk_52_method_5_code 53 = .ok (.getstatic 63, 3) := by decide +kernel
theorem d23_56 : decode jdk_52_method_5_code 56 = .ok (.ishl, 1) := by decide +kernel
theorem d23_57 : decode jdk_52_method_5_code 57 = .ok (.ior, 1) := by decide +kernel
theorem d23_58 : decode jdk_52_method_5_code 58 = .ok (.i2c, 1) := by decide +kernel
theorem d23_59 : decode jdk_52_method_5_code 59 = .ok (.ireturn, 1) := by decide +kernel
theorem d24_0 : decode jdk_52_method_83_code 0 = .ok (.iload_n 1, 1) := by decide +kernel
theorem d24_1 : decode jdk_52_method_83_code 1 = .ok (.aload_n 0, 1) := by decide +kernel
theorem d24_2 : decode jdk_52_method_83_code 2 = .ok (.invokestatic 67, 3) := by decide +kernel
theorem d24_5 : decode jdk_52_method_83_code 5 = .ok (.aload_n 0, 1) := by decide +kernel
theorem d24_6 : decode jdk_52_method_83_code 6 = .ok (.iload_n 1, 1) := by decide +kernel
theorem d24_7 : decode jdk_52_method_83_code 7 = .ok (.invokestatic 71, 3) := by decide +kernel
theorem d24_10 : decode jdk_52_method_83_code 10 = .ok (.ireturn, 1) := by decide +kernel
theorem d25_0 : decode jdk_52_method_91_code 0 = .ok (.iload_n 0, 1) := by decide +kernel
theorem d25_1 : decode jdk_52_method_91_code 1 = .ok (.aload_n 1, 1) := by decide +kernel
theorem d25_2 : decode jdk_52_method_91_code 2 = .ok (.invokestatic 48, 3) := by decide +kernel
theorem d25_5 : decode jdk_52_method_91_code 5 = .ok (.invokestatic 414, 3) := by decide +kernel
theorem d25_8 : decode jdk_52_method_91_code 8 = .ok (.return_, 1) := by decide +kernel
theorem d26_0 : decode jdk_52_method_6_code 0 = .ok (.aload_n 0, 1) := by decide +kernel
theorem d26_1 : decode jdk_52_method_6_code 1 = .ok (.arraylength, 1) := by decide +kernel
theorem d26_2 : decode jdk_52_method_6_code 2 = .ok (.iconst 1, 1) := by decide +kernel
theorem d26_3 : decode jdk_52_method_6_code 3 = .ok (.ishr, 1) := by decide +kernel
theorem d26_4 : decode jdk_52_method_6_code 4 = .ok (.ireturn, 1) := by decide +kernel
theorem pd0 : parseMethodDescriptor "([CIILjava/lang/Void;)V" = some ⟨[(.array .char), .int, .int, (.object "java/lang/Void")], none⟩ := by decide +kernel
theorem pd1 : parseMethodDescriptor "(I)I" = some ⟨[.int], some .int⟩ := by decide +kernel
theorem pd2 : parseMethodDescriptor "(I)[B" = some ⟨[.int], some (.array .byte)⟩ := by decide +kernel
theorem pd3 : parseMethodDescriptor "([BII)V" = some ⟨[(.array .byte), .int, .int], none⟩ := by decide +kernel
theorem pd4 : parseMethodDescriptor "([CI[BII)I" = some ⟨[(.array .char), .int, (.array .byte), .int, .int], some .int⟩ := by decide +kernel
theorem pd5 : parseMethodDescriptor "([CII)[B" = some ⟨[(.array .char), .int, .int], some (.array .byte)⟩ := by decide +kernel
theorem pd6 : parseMethodDescriptor "([BI)C" = some ⟨[(.array .byte), .int], some .char⟩ := by decide +kernel
theorem pd7 : parseMethodDescriptor "([BI)B" = some ⟨[(.array .byte), .int], some .byte⟩ := by decide +kernel
theorem pd8 : parseMethodDescriptor "(IILjava/util/function/BiFunction;)I" = some ⟨[.int, .int, (.object "java/util/function/BiFunction")], some .int⟩ := by decide +kernel
theorem pd9 : parseMethodDescriptor "()B" = some ⟨[], some .byte⟩ := by decide +kernel
theorem pd10 : parseMethodDescriptor "([B)I" = some ⟨[(.array .byte)], some .int⟩ := by decide +kernel
theorem pd11 : parseMethodDescriptor "(II)V" = some ⟨[.int, .int], none⟩ := by decide +kernel
theorem pd12 : parseMethodDescriptor "(I[B)V" = some ⟨[.int, (.array .byte)], none⟩ := by decide +kernel
theorem pd13 : parseMethodDescriptor "()Z" = some ⟨[], some .boolean⟩ := by decide +kernel
theorem pd14 : parseMethodDescriptor "()V" = some ⟨[], none⟩ := by decide +kernel
theorem pd15 : parseMethodDescriptor "(Lcom/example/nuntius/nuntius/http/ParameterValue$Kind;Ljava/lang/String;)V" = some ⟨[(.object "com/example/nuntius/nuntius/http/ParameterValue$Kind"), (.object "java/lang/String")], none⟩ := by decide +kernel
theorem pd16 : parseMethodDescriptor "([C)V" = some ⟨[(.array .char)], none⟩ := by decide +kernel
theorem pd17 : parseMethodDescriptor "(Ljava/lang/String;)Lcom/example/nuntius/nuntius/http/ParameterValue;" = some ⟨[(.object "java/lang/String")], some (.object "com/example/nuntius/nuntius/http/ParameterValue")⟩ := by decide +kernel
theorem pd18 : parseMethodDescriptor "()Lcom/example/nuntius/nuntius/http/ParameterValue$Kind;" = some ⟨[], some (.object "com/example/nuntius/nuntius/http/ParameterValue$Kind")⟩ := by decide +kernel
theorem pd19 : parseMethodDescriptor "()Ljava/lang/String;" = some ⟨[], some (.object "java/lang/String")⟩ := by decide +kernel
theorem pd20 : parseMethodDescriptor "()I" = some ⟨[], some .int⟩ := by decide +kernel
theorem pd21 : parseMethodDescriptor "(I)C" = some ⟨[.int], some .char⟩ := by decide +kernel
theorem ef0 (m : MethodId) (x0 : Addr) (x1 : Addr) (x2 : Int32) (x3 : Int32) : entryFrame m #[(.ref x0), (.ref x1), (.int x2), (.int x3), .null] 6 = mkF m 0 #[.val (.ref x0), .val (.ref x1), .val (.int x2), .val (.int x3), .val .null, .unset] [] := by first | (simp [entryFrame, mkF, argsToLocals, cat_int, cat_long, cat_refv, cat_null]; done) | rfl
theorem ef1 (m : MethodId) (x0 : Addr) (x1 : Addr) : entryFrame m #[(.ref x0), (.ref x1)] 2 = mkF m 0 #[.val (.ref x0), .val (.ref x1)] [] := by first | (simp [entryFrame, mkF, argsToLocals, cat_int, cat_long, cat_refv, cat_null]; done) | rfl
theorem ef2 (m : MethodId) (x0 : Addr) : entryFrame m #[(.ref x0)] 1 = mkF m 0 #[.val (.ref x0)] [] := by first | (simp [entryFrame, mkF, argsToLocals, cat_int, cat_long, cat_refv, cat_null]; done) | rfl
theorem ef3 (m : MethodId) (x0 : Addr) (x1 : Int32) (x2 : Int32) : entryFrame m #[(.ref x0), (.int x1), (.int x2)] 3 = mkF m 0 #[.val (.ref x0), .val (.int x1), .val (.int x2)] [] := by first | (simp [entryFrame, mkF, argsToLocals, cat_int, cat_long, cat_refv, cat_null]; done) | rfl
theorem ef4 (m : MethodId) (x0 : Addr) (x1 : Int32) : entryFrame m #[(.ref x0), (.int x1)] 2 = mkF m 0 #[.val (.ref x0), .val (.int x1)] [] := by first | (simp [entryFrame, mkF, argsToLocals, cat_int, cat_long, cat_refv, cat_null]; done) | rfl
theorem ef5 (m : MethodId) (x0 : Addr) (x1 : Int32) (x2 : Addr) (x3 : Int32) (x4 : Int32) : entryFrame m #[(.ref x0), (.int x1), (.ref x2), (.int x3), (.int x4)] 7 = mkF m 0 #[.val (.ref x0), .val (.int x1), .val (.ref x2), .val (.int x3), .val (.int x4), .unset, .unset] [] := by first | (simp [entryFrame, mkF, argsToLocals, cat_int, cat_long, cat_refv, cat_null]; done) | rfl
theorem ef6 (m : MethodId) (x0 : Int32) : entryFrame m #[(.int x0)] 1 = mkF m 0 #[.val (.int x0)] [] := by first | (simp [entryFrame, mkF, argsToLocals, cat_int, cat_long, cat_refv, cat_null]; done) | rfl
theorem ef7 (m : MethodId) (x0 : Addr) (x1 : Int32) (x2 : Int32) : entryFrame m #[(.ref x0), (.int x1), (.int x2)] 5 = mkF m 0 #[.val (.ref x0), .val (.int x1), .val (.int x2), .unset, .unset] [] := by first | (simp [entryFrame, mkF, argsToLocals, cat_int, cat_long, cat_refv, cat_null]; done) | rfl
theorem ef8 (m : MethodId) (x0 : Addr) (x1 : Int32) (x2 : Int32) : entryFrame m #[(.ref x0), (.int x1), (.int x2)] 6 = mkF m 0 #[.val (.ref x0), .val (.int x1), .val (.int x2), .unset, .unset, .unset] [] := by first | (simp [entryFrame, mkF, argsToLocals, cat_int, cat_long, cat_refv, cat_null]; done) | rfl
theorem ef9 (m : MethodId) (x0 : Int32) (x1 : Int32) (x2 : Value) (c2 : x2.category = 1) : entryFrame m #[(.int x0), (.int x1), x2] 3 = mkF m 0 #[.val (.int x0), .val (.int x1), .val x2] [] := by first | (simp [entryFrame, mkF, argsToLocals, cat_int, cat_long, cat_refv, cat_null, c2]; done) | rfl
theorem ef10 (m : MethodId) (x0 : Int32) (x1 : Int32) : entryFrame m #[(.int x0), (.int x1)] 2 = mkF m 0 #[.val (.int x0), .val (.int x1)] [] := by first | (simp [entryFrame, mkF, argsToLocals, cat_int, cat_long, cat_refv, cat_null]; done) | rfl
theorem ef11 (m : MethodId) (x0 : Int32) (x1 : Addr) : entryFrame m #[(.int x0), (.ref x1)] 2 = mkF m 0 #[.val (.int x0), .val (.ref x1)] [] := by first | (simp [entryFrame, mkF, argsToLocals, cat_int, cat_long, cat_refv, cat_null]; done) | rfl
theorem ef12 (m : MethodId) (x0 : Addr) (x1 : Value) (c1 : x1.category = 1) (x2 : Value) (c2 : x2.category = 1) : entryFrame m #[(.ref x0), x1, x2] 3 = mkF m 0 #[.val (.ref x0), .val x1, .val x2] [] := by first | (simp [entryFrame, mkF, argsToLocals, cat_int, cat_long, cat_refv, cat_null, c1, c2]; done) | rfl
theorem ef13 (m : MethodId) (x0 : Int32) (x1 : Int32) (x2 : Int32) (x3 : Int32) : entryFrame m #[(.int x0), (.int x1), (.int x2), (.int x3)] maxLocals = mkF m 0 #[.val (.int x0), .val (.int x1), .val (.int x2), .val (.int x3), .unset, .unset, .unset, .unset, .unset] [] := by first | (simp [entryFrame, mkF, argsToLocals, cat_int, cat_long, cat_refv, cat_null, maxLocals]; done) | rfl
theorem m4 (x : Int32) : x &&& (3 : Int32) = 0 ∨ x &&& (3 : Int32) = 1 ∨ x &&& (3 : Int32) = 2 ∨ x &&& (3 : Int32) = 3 := by
  have h1 : (x &&& (3 : Int32)).toInt = x.toInt % 2 ^ 2 := Jvm.Kit.i32_mask x 3 (k := 2) (by decide) (by decide)
  have q : (x &&& (3 : Int32)).toInt = 0 ∨ (x &&& (3 : Int32)).toInt = 1 ∨ (x &&& (3 : Int32)).toInt = 2 ∨ (x &&& (3 : Int32)).toInt = 3 := by rw [h1]; omega
  rcases q with q | q | q | q
  · exact Or.inl (Int32.toInt_inj.mp (q.trans rfl))
  · exact Or.inr (Or.inl (Int32.toInt_inj.mp (q.trans rfl)))
  · exact Or.inr (Or.inr (Or.inl (Int32.toInt_inj.mp (q.trans rfl))))
  · exact Or.inr (Or.inr (Or.inr (Int32.toInt_inj.mp (q.trans rfl))))
theorem own_m4 {v x : Int32} (h : v = x &&& (3 : Int32)) : v = 0 ∨ v = 1 ∨ v = 2 ∨ v = 3 := h ▸ m4 x
def QEm4 (Z : State) (a : Addr) (b : Addr) (h0 : Heap) : Option Value → Heap → Prop := fun v h => v = none ∧ SV Z h a []
set_option maxRecDepth 65536 in
set_option maxHeartbeats 40000000 in
theorem rmEm4 (l : Launch) (Z : State) (a0 : Array Value) (hw : ∀ d ∈ tables_1, d.before a0 Z = true) (a : Addr) (b : Addr) (h0 : Heap) (O : Ext Z.heap h0) (gz_a : Z.heap.size ≤ a) (Ea : Exa Z h0 a "java/lang/String") (Fv : Fld Z h0 a "java/lang/String" "value" "[B" .null) (Fc : Fld Z h0 a "java/lang/String" "coder" "B" (.int 0)) :
    CW [] l Z consts_1 (⟨"java/lang/String", "<init>", "([CIILjava/lang/Void;)V"⟩ : MethodName) jdk_42_method_149_code 6 (Option.none : Option Jvm.ClassFile.FieldType) ({ frames := 1, cells := 4, slots := 8, locals := 14 } : Room) #[(.ref a), (.ref b), (.int (0 : Int32)), (.int (0 : Int32)), .null] h0 [a] (QEm4 Z a b h0) := by
  refine CW.of_walk (plainFor_of_name pn0) O (ala gz_a ala0) ?_
  intro p e s m below meth c T0 W0 hsf hx hby hml hoZ hnm hret hlk
  have H0 := W0.here; have hz0 := W0.zsize; have hEL := elw hw
  refine Goes.cast (ef0 m a b (0 : Int32) (0 : Int32)) ?_
  have la := ltN Ea.lt
  refine G.aloadN H0 hx 1 (hb hby d2_0) rfl rfl rfl ?_
  refine Wk.initO W0 hx hoZ (wd hw 11 rfl) (wd hw 12 rfl) (wd hw 13 rfl) (by rw [hml]; rfl) 4 (hb hby d2_1) rfl (by decide) 0 (Nat.le_of_eq rfl) (by decide) ?_
  intro T1 W1; have H1 := W1.here
  refine G.iloadN H1 hx 5 (hb hby d2_4) rfl rfl ?_
  refine G.ifN H1 hx 8 (hb hby d2_5) (zeq (by decide)).2 rfl ?_
  refine G.aloadN H1 hx 9 (hb hby d2_8) rfl rfl rfl ?_
  refine Wk.ldcE W1 hx hoZ (text := "") (wd hw 14 rfl) (wsStr hw) hEL (by decide) (vs := []) (z := 0) ⟨by decide, by decide⟩ (by decide) (by decide) 11 (hb hby d2_9) rfl 0 (by decide) (by decide) (by decide) (by decide) ?_
  intro vm2 T2 h2 a2 b2 k2 W2 E2 Ch2 X2 F2c F2v V2 sep2
  have H2 := W2.here; have z2 := E2.1; have l2 := ltN X2.lt; have m2 := ltN V2.lt
  obtain ⟨nA2_a, nB2_a⟩ := sep2 a (Ch2.safe (ltA (by omega)) (hsf a (by simp)))
  have pA2_a := neN nA2_a; have pB2_a := neN nB2_a
  refine Wk.getF W2 hx hoZ (host := "") (Or.inl (wd hw 20 rfl)) Via.refl F2v 14 (hb hby d2_11) rfl ?_
  intro T3 W3; have H3 := W3.here
  refine Wk.putF W3 hx hoZ (wd hw 20 rfl) Via.refl (.ref b2) (Fv.ext E2) (Ea.ext E2) (Or.inr ⟨(wd hw 16 rfl), rfl, hnm⟩) (wd hw 2 rfl) (ty := (.array .byte)) (by decide) rfl rfl (Or.inl (by simp)) (Ch2.safe (ltA (by omega)) (hsf a (by simp))) 17 (hb hby d2_14) rfl ?_
  intro T4 h4 W4 R4 Ch4; have H4 := W4.here; have z4 := R4.size
  have F4 := ((Fv.ext E2)).same R4
  refine G.aloadN H4 hx 18 (hb hby d2_17) rfl rfl rfl ?_
  refine Wk.ldcE W4 hx hoZ (text := "") (wd hw 14 rfl) (wsStr hw) hEL (by decide) (vs := []) (z := 0) ⟨by decide, by decide⟩ (by decide) (by decide) 20 (hb hby d2_18) rfl 0 (by decide) (by decide) (by decide) (by decide) ?_
  intro vm5 T5 h5 a5 b5 k5 W5 E5 Ch5 X5 F5c F5v V5 sep5
  have H5 := W5.here; have z5 := E5.1; have l5 := ltN X5.lt; have m5 := ltN V5.lt
  obtain ⟨nA5_a, nB5_a⟩ := sep5 a (Ch5.safe (ltA (by omega)) (Ch4.safe (ltA (by omega)) (Ch2.safe (ltA (by omega)) (hsf a (by simp)))))
  have pA5_a := neN nA5_a; have pB5_a := neN nB5_a
  refine Wk.getF W5 hx hoZ (host := "") (Or.inl (wd hw 21 rfl)) Via.refl F5c 23 (hb hby d2_20) rfl ?_
  intro T6 W6; have H6 := W6.here
  refine Wk.putF W6 hx hoZ (wd hw 21 rfl) Via.refl (.int (0 : Int32)) (((Fc.ext E2).other R4 (Or.inr (slot_ne (Or.inr (wd hw 17 rfl)) (Or.inr (wd hw 16 rfl)) (by decide) (t := .byte) (t' := (.array .byte)) (by decide) (by decide)))).ext E5) (((Ea.ext E2).wr R4).ext E5) (Or.inr ⟨(wd hw 17 rfl), rfl, hnm⟩) (wd hw 2 rfl) (ty := .byte) (by decide) rfl rfl (Or.inl (by simp)) (Ch5.safe (ltA (by omega)) (Ch4.safe (ltA (by omega)) (Ch2.safe (ltA (by omega)) (hsf a (by simp))))) 26 (hb hby d2_23) rfl ?_
  intro T7 h7 W7 R7 Ch7; have H7 := W7.here; have z7 := R7.size
  have F7 := ((((Fc.ext E2).other R4 (Or.inr (slot_ne (Or.inr (wd hw 17 rfl)) (Or.inr (wd hw 16 rfl)) (by decide) (t := .byte) (t' := (.array .byte)) (by decide) (by decide)))).ext E5)).same R7
  exact Wk.retVW W7 hx hEL hret hlk (hb hby d2_26) (by decide) (by decide) ⟨rfl, ((((Ea.ext E2).wr R4).ext E5).wr R7), 0, _, _, 0, [], F7, ((F4.ext E5).other R7 (Or.inr (slot_ne (Or.inr (wd hw 16 rfl)) (Or.inr (wd hw 17 rfl)) (by decide) (t := (.array .byte)) (t' := .byte) (by decide) (by decide)))), (((V2.other R4 (neA (by omega))).ext E5).other R7 (neA (by omega))), Or.inl ⟨rfl, rfl, rfl, ala0⟩, ala0, by decide⟩
def QEm1 (Z : State) (a : Addr) (b : Addr) (kb : ClassId) (h0 : Heap) : Option Value → Heap → Prop := fun v h => v = none ∧ SV Z h a []
set_option maxRecDepth 65536 in
set_option maxHeartbeats 40000000 in
theorem rmEm1 (l : Launch) (Z : State) (a0 : Array Value) (hw : ∀ d ∈ tables_1, d.before a0 Z = true) (a : Addr) (b : Addr) (kb : ClassId) (h0 : Heap) (O : Ext Z.heap h0) (gz_a : Z.heap.size ≤ a) (Ea : Exa Z h0 a "java/lang/String") (Fv : Fld Z h0 a "java/lang/String" "value" "[B" .null) (Fc : Fld Z h0 a "java/lang/String" "coder" "B" (.int 0)) (Vb : Arv Z h0 b kb .char 0 [] (.int 0)) :
    CW [] l Z consts_1 (⟨"java/lang/String", "<init>", "([C)V"⟩ : MethodName) jdk_42_method_3_code 2 (Option.none : Option Jvm.ClassFile.FieldType) ({ frames := 2, cells := 4, slots := 8, locals := 32 } : Room) #[(.ref a), (.ref b)] h0 [a] (QEm1 Z a b kb h0) := by
  refine CW.of_walk (plainFor_of_name pn0) O (ala gz_a ala0) ?_
  intro p e s m below meth c T0 W0 hsf hx hby hml hoZ hnm hret hlk
  have H0 := W0.here; have hz0 := W0.zsize; have hEL := elw hw
  refine Goes.cast (ef1 m a b) ?_
  have la := ltN Ea.lt
  refine G.aloadN H0 hx 1 (hb hby d1_0) rfl rfl rfl ?_
  refine G.aloadN H0 hx 2 (hb hby d1_1) rfl rfl rfl ?_
  refine G.iconst H0 hx 3 (0 : Int32) (hb hby d1_2) rfl rfl ?_
  refine G.aloadN H0 hx 4 (hb hby d1_3) rfl rfl rfl ?_
  refine Wk.arraylength W0 hx Vb 5 (hb hby d1_4) rfl ?_
  refine G.aconstNull H0 hx 6 (hb hby d1_5) rfl ?_
  refine Wk.specialW W0 hx hoZ (y := (⟨"java/lang/String", "<init>", "([CIILjava/lang/Void;)V"⟩ : MethodName)) rfl (wd hw 7 rfl) (wd hw 8 rfl) (wd hw 10 rfl) (by decide) (Wd := 0) (CW.back (rmEm4 l Z a0 hw a b h0 W0.old (by omega) Ea Fv Fc) W0.warm (wd hw 10 rfl) (wd hw 3 rfl) (by decide) (by decide) hEL W0.ch (all1 (by omega)) (ala (hsf a (by simp)) ala0)) a (by rw [hml]; rfl) [(.ref b), (.int (0 : Int32)), (.int (0 : Int32)), .null] [] (lenOf pd0 rfl) rfl rfl (Nat.le_of_eq rfl) 9 (hb hby d1_6) rfl (by decide) (by decide) (hws1 (Or.inl (by simp)) (hsf a (by simp))) ?_
  intro v1 vm1 T1 h1 W1 K1 Ch1 Q1
  have H1 := W1.here; have z1 := K1.1
  obtain ⟨rfl, Sv1⟩ := Q1
  show Goes p e below (PostW s Z consts_1 h0 [a] (QEm1 Z a b kb h0) ({ frames := 2, cells := 4, slots := 8, locals := 32 } : Room).cells ({ frames := 2, cells := 4, slots := 8, locals := 32 } : Room).slots) (T1.setTop (mkF m 9 #[.val (.ref a), .val (.ref b)] []))
  exact Wk.retVW W1 hx hEL hret hlk (hb hby d1_9) (by decide) (by decide) ⟨rfl, Sv1⟩
def QRec (Z : State) (a : Addr) (h0 : Heap) : Option Value → Heap → Prop := fun v h => v = none ∧ h = h0
set_option maxRecDepth 65536 in
set_option maxHeartbeats 40000000 in
theorem rmRec (l : Launch) (Z : State) (a0 : Array Value) (hw : ∀ d ∈ tables_1, d.before a0 Z = true) (a : Addr) (h0 : Heap) (O : Ext Z.heap h0) :
    CN [] l Z (⟨"java/lang/Record", "<init>", "()V"⟩ : MethodName) jdk_30_method_1_code 1 (Option.none : Option Jvm.ClassFile.FieldType) ({ frames := 1, cells := 0, slots := 0, locals := 12 } : Room) #[(.ref a)] h0 [] (QRec Z a h0) := by
  refine CN.of_walk (plainFor_of_name pn1) O (fun _ q => nomatch q) ?_
  intro p e s m below meth c T0 W0 hx hby hml hoZ hnm hret hlk
  have H0 := W0.here; have hz0 := W0.zsize
  refine Goes.cast (ef2 m a) ?_
  refine G.aloadN H0 hx 1 (hb hby d6_0) rfl rfl rfl ?_
  refine Wk.initO W0 hx hoZ (wd hw 39 rfl) (wd hw 12 rfl) (wd hw 13 rfl) (by rw [hml]; rfl) 4 (hb hby d6_1) rfl (by decide) 0 (Nat.le_of_eq rfl) (by decide) ?_
  intro T1 W1; have H1 := W1.here
  exact Wk.retV W1 hx hret hlk (hb hby d6_4) (by decide) (by decide) ⟨rfl, rfl⟩
theorem pair16 {c : Int32} (h : C16 c) : (OwnKit.i2c ((((OwnKit.i2b c) &&& (255 : Int32)) <<< ((0 : Int32) &&& 31)) ||| (((OwnKit.i2b (c >>> ((8 : Int32) &&& 31))) &&& (255 : Int32)) <<< ((8 : Int32) &&& 31)))) = c := StrChars.pair_says h.1 h.2
def QULn1 (Z : State) (b : Addr) (kb : ClassId) (u0 : Int32) (u1 : Int32) (h0 : Heap) : Option Value → Heap → Prop := fun v h => v = some (.int 1) ∧ h = h0
set_option maxRecDepth 65536 in
set_option maxHeartbeats 40000000 in
theorem rmULn1 (l : Launch) (Z : State) (a0 : Array Value) (hw : ∀ d ∈ tables_1, d.before a0 Z = true) (b : Addr) (kb : ClassId) (u0 : Int32) (u1 : Int32) (h0 : Heap) (O : Ext Z.heap h0) (Vb : Arv Z h0 b kb .byte 2 [(.int u0), (.int u1)] (.int 0)) :
    CN [] l Z (⟨"java/lang/StringUTF16", "length", "([B)I"⟩ : MethodName) jdk_52_method_6_code 1 (Option.some Jvm.ClassFile.FieldType.int) ({ frames := 0, cells := 0, slots := 0, locals := 0 } : Room) #[(.ref b)] h0 [] (QULn1 Z b kb u0 u1 h0) := by
  refine CN.of_walk (plainFor_of_name pn2) O (fun _ q => nomatch q) ?_
  intro p e s m below meth c T0 W0 hx hby hml hoZ hnm hret hlk
  have H0 := W0.here; have hz0 := W0.zsize
  refine Goes.cast (ef2 m b) ?_
  refine G.aloadN H0 hx 1 (hb hby d26_0) rfl rfl rfl ?_
  refine Wk.arraylength W0 hx Vb 2 (hb hby d26_1) rfl ?_
  refine G.iconst H0 hx 3 (1 : Int32) (hb hby d26_2) rfl rfl ?_
  refine G.ishrF H0 hx 4 (1 : Int32) (hb hby d26_3) (by decide) rfl ?_
  exact Wk.retI W0 hx hret hlk (hb hby d26_4) (by decide) (by decide) ⟨rfl, rfl⟩
def QUPc1_0 (Z : State) (b : Addr) (kb : ClassId) (x : Int32) (u0 : Int32) (u1 : Int32) (h0 : Heap) : Option Value → Heap → Prop := fun v h => v = none ∧ Arv Z h b kb .byte 2 [(.int (OwnKit.i2b x)), (.int (OwnKit.i2b (x >>> ((8 : Int32) &&& 31))))] (.int 0)
set_option maxRecDepth 65536 in
set_option maxHeartbeats 40000000 in
theorem rmUPc1_0 (l : Launch) (Z : State) (a0 : Array Value) (hw : ∀ d ∈ tables_1, d.before a0 Z = true) (b : Addr) (kb : ClassId) (x : Int32) (u0 : Int32) (u1 : Int32) (h0 : Heap) (O : Ext Z.heap h0) (hAD : Sta Z Z.heap "java/lang/StringUTF16" "$assertionsDisabled" "Z" (.int 1)) (hHI : Sta Z Z.heap "java/lang/StringUTF16" "HI_BYTE_SHIFT" "I" (.int 0)) (hLO : Sta Z Z.heap "java/lang/StringUTF16" "LO_BYTE_SHIFT" "I" (.int 8)) (gz_b : Z.heap.size ≤ b) (Vb : Arv Z h0 b kb .byte 2 [(.int u0), (.int u1)] (.int 0)) :
    CN [] l Z (⟨"java/lang/StringUTF16", "putChar", "([BII)V"⟩ : MethodName) jdk_52_method_4_code 3 (Option.none : Option Jvm.ClassFile.FieldType) ({ frames := 1, cells := 0, slots := 0, locals := 14 } : Room) #[(.ref b), (.int (0 : Int32)), (.int x)] h0 [b] (QUPc1_0 Z b kb x u0 u1 h0) := by
  refine CN.of_walk (plainFor_of_name pn2) O (ala gz_b ala0) ?_
  intro p e s m below meth c T0 W0 hx hby hml hoZ hnm hret hlk
  have H0 := W0.here; have hz0 := W0.zsize
  refine Goes.cast (ef3 m b (0 : Int32) x) ?_
  refine Wk.getS W0 hx hoZ (wd hw 112 rfl) Via.refl (hAD.ext W0.old) 3 (hb hby d22_0) rfl ?_
  intro T1 W1; have H1 := W1.here
  refine G.ifY H1 hx 28 (hb hby d22_3) (zne (by decide)).2 (by decide) rfl ?_
  refine G.iloadN H1 hx 29 (hb hby d22_28) rfl rfl ?_
  refine G.iconst H1 hx 30 (1 : Int32) (hb hby d22_29) rfl rfl ?_
  refine G.ishlF H1 hx 31 (0 : Int32) (hb hby d22_30) (by decide) rfl ?_
  refine G.istoreNX H1 hx 32 #[.val (.ref b), .val (.int (0 : Int32)), .val (.int x)] (hb hby d22_31) rfl rfl ?_
  refine G.aloadN H1 hx 33 (hb hby d22_32) rfl rfl rfl ?_
  refine G.iloadN H1 hx 34 (hb hby d22_33) rfl rfl ?_
  refine G.iincX H1 hx 37 #[.val (.ref b), .val (.int (1 : Int32)), .val (.int x)] (hb hby d22_34) rfl (1 : Int32) rfl rfl rfl ?_
  refine G.iloadN H1 hx 38 (hb hby d22_37) rfl rfl ?_
  refine Wk.getS W1 hx hoZ (wd hw 113 rfl) Via.refl (hHI.ext W1.old) 41 (hb hby d22_38) rfl ?_
  intro T2 W2; have H2 := W2.here
  refine G.ishr H2 hx 42 (hb hby d22_41) rfl ?_
  refine G.i2b H2 hx 43 (hb hby d22_42) rfl ?_
  refine Wk.bastore W2 hx Vb (Or.inl (by simp)) safe0 (OwnKit.i2b x) (by rw [StrChars.shr0]; exact i2b_i2b _) 0 rfl ⟨by decide, by decide⟩ (Nat.le_of_ble_eq_true rfl) 44 (hb hby d22_43) rfl ?_
  intro T3 h3 W3 K3 Ch3 V3; have H3 := W3.here; have z3 := K3.1
  have V3 : Arv Z h3 b kb .byte (2 : Int32) [(.int (OwnKit.i2b x)), (.int u1)] (.int 0) := V3
  refine G.aloadN H3 hx 45 (hb hby d22_44) rfl rfl rfl ?_
  refine G.iloadN H3 hx 46 (hb hby d22_45) rfl rfl ?_
  refine G.iloadN H3 hx 47 (hb hby d22_46) rfl rfl ?_
  refine Wk.getS W3 hx hoZ (wd hw 114 rfl) Via.refl (hLO.ext W3.old) 50 (hb hby d22_47) rfl ?_
  intro T4 W4; have H4 := W4.here
  refine G.ishr H4 hx 51 (hb hby d22_50) rfl ?_
  refine G.i2b H4 hx 52 (hb hby d22_51) rfl ?_
  refine Wk.bastore W4 hx V3 (Or.inl (by simp)) safe0 (OwnKit.i2b (x >>> ((8 : Int32) &&& 31))) (i2b_i2b _) 1 rfl ⟨by decide, by decide⟩ (Nat.le_of_ble_eq_true rfl) 53 (hb hby d22_52) rfl ?_
  intro T5 h5 W5 K5 Ch5 V5; have H5 := W5.here; have z5 := K5.1
  have V5 : Arv Z h5 b kb .byte (2 : Int32) [(.int (OwnKit.i2b x)), (.int (OwnKit.i2b (x >>> ((8 : Int32) &&& 31))))] (.int 0) := V5
  exact Wk.retV W5 hx hret hlk (hb hby d22_53) (by decide) (by decide) ⟨rfl, V5⟩
def QUGc1_0 (Z : State) (b : Addr) (kb : ClassId) (u0 : Int32) (u1 : Int32) (h0 : Heap) : Option Value → Heap → Prop := fun v h => v = some (.int (OwnKit.i2c (((u0 &&& (255 : Int32)) <<< ((0 : Int32) &&& 31)) ||| ((u1 &&& (255 : Int32)) <<< ((8 : Int32) &&& 31))))) ∧ h = h0
set_option maxRecDepth 65536 in
set_option maxHeartbeats 40000000 in
theorem rmUGc1_0 (l : Launch) (Z : State) (a0 : Array Value) (hw : ∀ d ∈ tables_1, d.before a0 Z = true) (b : Addr) (kb : ClassId) (u0 : Int32) (u1 : Int32) (h0 : Heap) (O : Ext Z.heap h0) (hAD : Sta Z Z.heap "java/lang/StringUTF16" "$assertionsDisabled" "Z" (.int 1)) (hHI : Sta Z Z.heap "java/lang/StringUTF16" "HI_BYTE_SHIFT" "I" (.int 0)) (hLO : Sta Z Z.heap "java/lang/StringUTF16" "LO_BYTE_SHIFT" "I" (.int 8)) (Vb : Arv Z h0 b kb .byte 2 [(.int u0), (.int u1)] (.int 0)) :
    CN [] l Z (⟨"java/lang/StringUTF16", "getChar", "([BI)C"⟩ : MethodName) jdk_52_method_5_code 2 (Option.some Jvm.ClassFile.FieldType.char) ({ frames := 1, cells := 0, slots := 0, locals := 14 } : Room) #[(.ref b), (.int (0 : Int32))] h0 [] (QUGc1_0 Z b kb u0 u1 h0) := by
  refine CN.of_walk (plainFor_of_name pn2) O (fun _ q => nomatch q) ?_
  intro p e s m below meth c T0 W0 hx hby hml hoZ hnm hret hlk
  have H0 := W0.here; have hz0 := W0.zsize
  refine Goes.cast (ef4 m b (0 : Int32)) ?_
  refine Wk.getS W0 hx hoZ (wd hw 112 rfl) Via.refl (hAD.ext W0.old) 3 (hb hby d23_0) rfl ?_
  intro T1 W1; have H1 := W1.here
  refine G.ifY H1 hx 28 (hb hby d23_3) (zne (by decide)).2 (by decide) rfl ?_
  refine G.iloadN H1 hx 29 (hb hby d23_28) rfl rfl ?_
  refine G.iconst H1 hx 30 (1 : Int32) (hb hby d23_29) rfl rfl ?_
  refine G.ishlF H1 hx 31 (0 : Int32) (hb hby d23_30) (by decide) rfl ?_
  refine G.istoreNX H1 hx 32 #[.val (.ref b), .val (.int (0 : Int32))] (hb hby d23_31) rfl rfl ?_
  refine G.aloadN H1 hx 33 (hb hby d23_32) rfl rfl rfl ?_
  refine G.iloadN H1 hx 34 (hb hby d23_33) rfl rfl ?_
  refine G.iincX H1 hx 37 #[.val (.ref b), .val (.int (1 : Int32))] (hb hby d23_34) rfl (1 : Int32) rfl rfl rfl ?_
  refine Wk.baload W1 hx Vb ⟨by decide, by decide⟩ (.int u0) rfl 38 (hb hby d23_37) rfl ?_
  refine G.sipush H1 hx 41 (255 : Int32) (hb hby d23_38) rfl rfl ?_
  refine G.iand H1 hx 42 (hb hby d23_41) rfl ?_
  refine Wk.getS W1 hx hoZ (wd hw 113 rfl) Via.refl (hHI.ext W1.old) 45 (hb hby d23_42) rfl ?_
  intro T2 W2; have H2 := W2.here
  refine G.ishl H2 hx 46 (hb hby d23_45) rfl ?_
  refine G.aloadN H2 hx 47 (hb hby d23_46) rfl rfl rfl ?_
  refine G.iloadN H2 hx 48 (hb hby d23_47) rfl rfl ?_
  refine Wk.baload W2 hx Vb ⟨by decide, by decide⟩ (.int u1) rfl 49 (hb hby d23_48) rfl ?_
  refine G.sipush H2 hx 52 (255 : Int32) (hb hby d23_49) rfl rfl ?_
  refine G.iand H2 hx 53 (hb hby d23_52) rfl ?_
  refine Wk.getS W2 hx hoZ (wd hw 114 rfl) Via.refl (hLO.ext W2.old) 56 (hb hby d23_53) rfl ?_
  intro T3 W3; have H3 := W3.here
  refine G.ishl H3 hx 57 (hb hby d23_56) rfl ?_
  refine G.ior H3 hx 58 (hb hby d23_57) rfl ?_
  refine G.i2c H3 hx 59 (hb hby d23_58) rfl ?_
  exact Wk.retN W3 hx (OwnKit.i2c (((u0 &&& (255 : Int32)) <<< ((0 : Int32) &&& 31)) ||| ((u1 &&& (255 : Int32)) <<< ((8 : Int32) &&& 31)))) (t := .char) (nar_c16 (i2c_c16 _)) (by simp) hret hlk (hb hby d23_59) (by decide) (by decide) ⟨rfl, rfl⟩
def QULn2 (Z : State) (b : Addr) (kb : ClassId) (u0 : Int32) (u1 : Int32) (u2 : Int32) (u3 : Int32) (h0 : Heap) : Option Value → Heap → Prop := fun v h => v = some (.int 2) ∧ h = h0
set_option maxRecDepth 65536 in
set_option maxHeartbeats 40000000 in
theorem rmULn2 (l : Launch) (Z : State) (a0 : Array Value) (hw : ∀ d ∈ tables_1, d.before a0 Z = true) (b : Addr) (kb : ClassId) (u0 : Int32) (u1 : Int32) (u2 : Int32) (u3 : Int32) (h0 : Heap) (O : Ext Z.heap h0) (Vb : Arv Z h0 b kb .byte 4 [(.int u0), (.int u1), (.int u2), (.int u3)] (.int 0)) :
    CN [] l Z (⟨"java/lang/StringUTF16", "length", "([B)I"⟩ : MethodName) jdk_52_method_6_code 1 (Option.some Jvm.ClassFile.FieldType.int) ({ frames := 0, cells := 0, slots := 0, locals := 0 } : Room) #[(.ref b)] h0 [] (QULn2 Z b kb u0 u1 u2 u3 h0) := by
  refine CN.of_walk (plainFor_of_name pn2) O (fun _ q => nomatch q) ?_
  intro p e s m below meth c T0 W0 hx hby hml hoZ hnm hret hlk
  have H0 := W0.here; have hz0 := W0.zsize
  refine Goes.cast (ef2 m b) ?_
  refine G.aloadN H0 hx 1 (hb hby d26_0) rfl rfl rfl ?_
  refine Wk.arraylength W0 hx Vb 2 (hb hby d26_1) rfl ?_
  refine G.iconst H0 hx 3 (1 : Int32) (hb hby d26_2) rfl rfl ?_
  refine G.ishrF H0 hx 4 (2 : Int32) (hb hby d26_3) (by decide) rfl ?_
  exact Wk.retI W0 hx hret hlk (hb hby d26_4) (by decide) (by decide) ⟨rfl, rfl⟩
def QUPc2_0 (Z : State) (b : Addr) (kb : ClassId) (x : Int32) (u0 : Int32) (u1 : Int32) (u2 : Int32) (u3 : Int32) (h0 : Heap) : Option Value → Heap → Prop := fun v h => v = none ∧ Arv Z h b kb .byte 4 [(.int (OwnKit.i2b x)), (.int (OwnKit.i2b (x >>> ((8 : Int32) &&& 31)))), (.int u2), (.int u3)] (.int 0)
set_option maxRecDepth 65536 in
set_option maxHeartbeats 40000000 in
theorem rmUPc2_0 (l : Launch) (Z : State) (a0 : Array Value) (hw : ∀ d ∈ tables_1, d.before a0 Z = true) (b : Addr) (kb : ClassId) (x : Int32) (u0 : Int32) (u1 : Int32) (u2 : Int32) (u3 : Int32) (h0 : Heap) (O : Ext Z.heap h0) (hAD : Sta Z Z.heap "java/lang/StringUTF16" "$assertionsDisabled" "Z" (.int 1)) (hHI : Sta Z Z.heap "java/lang/StringUTF16" "HI_BYTE_SHIFT" "I" (.int 0)) (hLO : Sta Z Z.heap "java/lang/StringUTF16" "LO_BYTE_SHIFT" "I" (.int 8)) (gz_b : Z.heap.size ≤ b) (Vb : Arv Z h0 b kb .byte 4 [(.int u0), (.int u1), (.int u2), (.int u3)] (.int 0)) :
    CN [] l Z (⟨"java/lang/StringUTF16", "putChar", "([BII)V"⟩ : MethodName) jdk_52_method_4_code 3 (Option.none : Option Jvm.ClassFile.FieldType) ({ frames := 1, cells := 0, slots := 0, locals := 14 } : Room) #[(.ref b), (.int (0 : Int32)), (.int x)] h0 [b] (QUPc2_0 Z b kb x u0 u1 u2 u3 h0) := by
  refine CN.of_walk (plainFor_of_name pn2) O (ala gz_b ala0) ?_
  intro p e s m below meth c T0 W0 hx hby hml hoZ hnm hret hlk
  have H0 := W0.here; have hz0 := W0.zsize
  refine Goes.cast (ef3 m b (0 : Int32) x) ?_
  refine Wk.getS W0 hx hoZ (wd hw 112 rfl) Via.refl (hAD.ext W0.old) 3 (hb hby d22_0) rfl ?_
  intro T1 W1; have H1 := W1.here
  refine G.ifY H1 hx 28 (hb hby d22_3) (zne (by decide)).2 (by decide) rfl ?_
  refine G.iloadN H1 hx 29 (hb hby d22_28) rfl rfl ?_
  refine G.iconst H1 hx 30 (1 : Int32) (hb hby d22_29) rfl rfl ?_
  refine G.ishlF H1 hx 31 (0 : Int32) (hb hby d22_30) (by decide) rfl ?_
  refine G.istoreNX H1 hx 32 #[.val (.ref b), .val (.int (0 : Int32)), .val (.int x)] (hb hby d22_31) rfl rfl ?_
  refine G.aloadN H1 hx 33 (hb hby d22_32) rfl rfl rfl ?_
  refine G.iloadN H1 hx 34 (hb hby d22_33) rfl rfl ?_
  refine G.iincX H1 hx 37 #[.val (.ref b), .val (.int (1 : Int32)), .val (.int x)] (hb hby d22_34) rfl (1 : Int32) rfl rfl rfl ?_
  refine G.iloadN H1 hx 38 (hb hby d22_37) rfl rfl ?_
  refine Wk.getS W1 hx hoZ (wd hw 113 rfl) Via.refl (hHI.ext W1.old) 41 (hb hby d22_38) rfl ?_
  intro T2 W2; have H2 := W2.here
  refine G.ishr H2 hx 42 (hb hby d22_41) rfl ?_
  refine G.i2b H2 hx 43 (hb hby d22_42) rfl ?_
  refine Wk.bastore W2 hx Vb (Or.inl (by simp)) safe0 (OwnKit.i2b x) (by rw [StrChars.shr0]; exact i2b_i2b _) 0 rfl ⟨by decide, by decide⟩ (Nat.le_of_ble_eq_true rfl) 44 (hb hby d22_43) rfl ?_
  intro T3 h3 W3 K3 Ch3 V3; have H3 := W3.here; have z3 := K3.1
  have V3 : Arv Z h3 b kb .byte (4 : Int32) [(.int (OwnKit.i2b x)), (.int u1), (.int u2), (.int u3)] (.int 0) := V3
  refine G.aloadN H3 hx 45 (hb hby d22_44) rfl rfl rfl ?_
  refine G.iloadN H3 hx 46 (hb hby d22_45) rfl rfl ?_
  refine G.iloadN H3 hx 47 (hb hby d22_46) rfl rfl ?_
  refine Wk.getS W3 hx hoZ (wd hw 114 rfl) Via.refl (hLO.ext W3.old) 50 (hb hby d22_47) rfl ?_
  intro T4 W4; have H4 := W4.here
  refine G.ishr H4 hx 51 (hb hby d22_50) rfl ?_
  refine G.i2b H4 hx 52 (hb hby d22_51) rfl ?_
  refine Wk.bastore W4 hx V3 (Or.inl (by simp)) safe0 (OwnKit.i2b (x >>> ((8 : Int32) &&& 31))) (i2b_i2b _) 1 rfl ⟨by decide, by decide⟩ (Nat.le_of_ble_eq_true rfl) 53 (hb hby d22_52) rfl ?_
  intro T5 h5 W5 K5 Ch5 V5; have H5 := W5.here; have z5 := K5.1
  have V5 : Arv Z h5 b kb .byte (4 : Int32) [(.int (OwnKit.i2b x)), (.int (OwnKit.i2b (x >>> ((8 : Int32) &&& 31)))), (.int u2), (.int u3)] (.int 0) := V5
  exact Wk.retV W5 hx hret hlk (hb hby d22_53) (by decide) (by decide) ⟨rfl, V5⟩
def QUGc2_0 (Z : State) (b : Addr) (kb : ClassId) (u0 : Int32) (u1 : Int32) (u2 : Int32) (u3 : Int32) (h0 : Heap) : Option Value → Heap → Prop := fun v h => v = some (.int (OwnKit.i2c (((u0 &&& (255 : Int32)) <<< ((0 : Int32) &&& 31)) ||| ((u1 &&& (255 : Int32)) <<< ((8 : Int32) &&& 31))))) ∧ h = h0
set_option maxRecDepth 65536 in
set_option maxHeartbeats 40000000 in
theorem rmUGc2_0 (l : Launch) (Z : State) (a0 : Array Value) (hw : ∀ d ∈ tables_1, d.before a0 Z = true) (b : Addr) (kb : ClassId) (u0 : Int32) (u1 : Int32) (u2 : Int32) (u3 : Int32) (h0 : Heap) (O : Ext Z.heap h0) (hAD : Sta Z Z.heap "java/lang/StringUTF16" "$assertionsDisabled" "Z" (.int 1)) (hHI : Sta Z Z.heap "java/lang/StringUTF16" "HI_BYTE_SHIFT" "I" (.int 0)) (hLO : Sta Z Z.heap "java/lang/StringUTF16" "LO_BYTE_SHIFT" "I" (.int 8)) (Vb : Arv Z h0 b kb .byte 4 [(.int u0), (.int u1), (.int u2), (.int u3)] (.int 0)) :
    CN [] l Z (⟨"java/lang/StringUTF16", "getChar", "([BI)C"⟩ : MethodName) jdk_52_method_5_code 2 (Option.some Jvm.ClassFile.FieldType.char) ({ frames := 1, cells := 0, slots := 0, locals := 14 } : Room) #[(.ref b), (.int (0 : Int32))] h0 [] (QUGc2_0 Z b kb u0 u1 u2 u3 h0) := by
  refine CN.of_walk (plainFor_of_name pn2) O (fun _ q => nomatch q) ?_
  intro p e s m below meth c T0 W0 hx hby hml hoZ hnm hret hlk
  have H0 := W0.here; have hz0 := W0.zsize
  refine Goes.cast (ef4 m b (0 : Int32)) ?_
  refine Wk.getS W0 hx hoZ (wd hw 112 rfl) Via.refl (hAD.ext W0.old) 3 (hb hby d23_0) rfl ?_
  intro T1 W1; have H1 := W1.here
  refine G.ifY H1 hx 28 (hb hby d23_3) (zne (by decide)).2 (by decide) rfl ?_
  refine G.iloadN H1 hx 29 (hb hby d23_28) rfl rfl ?_
  refine G.iconst H1 hx 30 (1 : Int32) (hb hby d23_29) rfl rfl ?_
  refine G.ishlF H1 hx 31 (0 : Int32) (hb hby d23_30) (by decide) rfl ?_
  refine G.istoreNX H1 hx 32 #[.val (.ref b), .val (.int (0 : Int32))] (hb hby d23_31) rfl rfl ?_
  refine G.aloadN H1 hx 33 (hb hby d23_32) rfl rfl rfl ?_
  refine G.iloadN H1 hx 34 (hb hby d23_33) rfl rfl ?_
  refine G.iincX H1 hx 37 #[.val (.ref b), .val (.int (1 : Int32))] (hb hby d23_34) rfl (1 : Int32) rfl rfl rfl ?_
  refine Wk.baload W1 hx Vb ⟨by decide, by decide⟩ (.int u0) rfl 38 (hb hby d23_37) rfl ?_
  refine G.sipush H1 hx 41 (255 : Int32) (hb hby d23_38) rfl rfl ?_
  refine G.iand H1 hx 42 (hb hby d23_41) rfl ?_
  refine Wk.getS W1 hx hoZ (wd hw 113 rfl) Via.refl (hHI.ext W1.old) 45 (hb hby d23_42) rfl ?_
  intro T2 W2; have H2 := W2.here
  refine G.ishl H2 hx 46 (hb hby d23_45) rfl ?_
  refine G.aloadN H2 hx 47 (hb hby d23_46) rfl rfl rfl ?_
  refine G.iloadN H2 hx 48 (hb hby d23_47) rfl rfl ?_
  refine Wk.baload W2 hx Vb ⟨by decide, by decide⟩ (.int u1) rfl 49 (hb hby d23_48) rfl ?_
  refine G.sipush H2 hx 52 (255 : Int32) (hb hby d23_49) rfl rfl ?_
  refine G.iand H2 hx 53 (hb hby d23_52) rfl ?_
  refine Wk.getS W2 hx hoZ (wd hw 114 rfl) Via.refl (hLO.ext W2.old) 56 (hb hby d23_53) rfl ?_
  intro T3 W3; have H3 := W3.here
  refine G.ishl H3 hx 57 (hb hby d23_56) rfl ?_
  refine G.ior H3 hx 58 (hb hby d23_57) rfl ?_
  refine G.i2c H3 hx 59 (hb hby d23_58) rfl ?_
  exact Wk.retN W3 hx (OwnKit.i2c (((u0 &&& (255 : Int32)) <<< ((0 : Int32) &&& 31)) ||| ((u1 &&& (255 : Int32)) <<< ((8 : Int32) &&& 31)))) (t := .char) (nar_c16 (i2c_c16 _)) (by simp) hret hlk (hb hby d23_59) (by decide) (by decide) ⟨rfl, rfl⟩
def QUPc2_1 (Z : State) (b : Addr) (kb : ClassId) (x : Int32) (u0 : Int32) (u1 : Int32) (u2 : Int32) (u3 : Int32) (h0 : Heap) : Option Value → Heap → Prop := fun v h => v = none ∧ Arv Z h b kb .byte 4 [(.int u0), (.int u1), (.int (OwnKit.i2b x)), (.int (OwnKit.i2b (x >>> ((8 : Int32) &&& 31))))] (.int 0)
set_option maxRecDepth 65536 in
set_option maxHeartbeats 40000000 in
theorem rmUPc2_1 (l : Launch) (Z : State) (a0 : Array Value) (hw : ∀ d ∈ tables_1, d.before a0 Z = true) (b : Addr) (kb : ClassId) (x : Int32) (u0 : Int32) (u1 : Int32) (u2 : Int32) (u3 : Int32) (h0 : Heap) (O : Ext Z.heap h0) (hAD : Sta Z Z.heap "java/lang/StringUTF16" "$assertionsDisabled" "Z" (.int 1)) (hHI : Sta Z Z.heap "java/lang/StringUTF16" "HI_BYTE_SHIFT" "I" (.int 0)) (hLO : Sta Z Z.heap "java/lang/StringUTF16" "LO_BYTE_SHIFT" "I" (.int 8)) (gz_b : Z.heap.size ≤ b) (Vb : Arv Z h0 b kb .byte 4 [(.int u0), (.int u1), (.int u2), (.int u3)] (.int 0)) :
    CN [] l Z (⟨"java/lang/StringUTF16", "putChar", "([BII)V"⟩ : MethodName) jdk_52_method_4_code 3 (Option.none : Option Jvm.ClassFile.FieldType) ({ frames := 1, cells := 0, slots := 0, locals := 14 } : Room) #[(.ref b), (.int (1 : Int32)), (.int x)] h0 [b] (QUPc2_1 Z b kb x u0 u1 u2 u3 h0) := by
  refine CN.of_walk (plainFor_of_name pn2) O (ala gz_b ala0) ?_
  intro p e s m below meth c T0 W0 hx hby hml hoZ hnm hret hlk
  have H0 := W0.here; have hz0 := W0.zsize
  refine Goes.cast (ef3 m b (1 : Int32) x) ?_
  refine Wk.getS W0 hx hoZ (wd hw 112 rfl) Via.refl (hAD.ext W0.old) 3 (hb hby d22_0) rfl ?_
  intro T1 W1; have H1 := W1.here
  refine G.ifY H1 hx 28 (hb hby d22_3) (zne (by decide)).2 (by decide) rfl ?_
  refine G.iloadN H1 hx 29 (hb hby d22_28) rfl rfl ?_
  refine G.iconst H1 hx 30 (1 : Int32) (hb hby d22_29) rfl rfl ?_
  refine G.ishlF H1 hx 31 (2 : Int32) (hb hby d22_30) (by decide) rfl ?_
  refine G.istoreNX H1 hx 32 #[.val (.ref b), .val (.int (2 : Int32)), .val (.int x)] (hb hby d22_31) rfl rfl ?_
  refine G.aloadN H1 hx 33 (hb hby d22_32) rfl rfl rfl ?_
  refine G.iloadN H1 hx 34 (hb hby d22_33) rfl rfl ?_
  refine G.iincX H1 hx 37 #[.val (.ref b), .val (.int (3 : Int32)), .val (.int x)] (hb hby d22_34) rfl (1 : Int32) rfl rfl rfl ?_
  refine G.iloadN H1 hx 38 (hb hby d22_37) rfl rfl ?_
  refine Wk.getS W1 hx hoZ (wd hw 113 rfl) Via.refl (hHI.ext W1.old) 41 (hb hby d22_38) rfl ?_
  intro T2 W2; have H2 := W2.here
  refine G.ishr H2 hx 42 (hb hby d22_41) rfl ?_
  refine G.i2b H2 hx 43 (hb hby d22_42) rfl ?_
  refine Wk.bastore W2 hx Vb (Or.inl (by simp)) safe0 (OwnKit.i2b x) (by rw [StrChars.shr0]; exact i2b_i2b _) 2 rfl ⟨by decide, by decide⟩ (Nat.le_of_ble_eq_true rfl) 44 (hb hby d22_43) rfl ?_
  intro T3 h3 W3 K3 Ch3 V3; have H3 := W3.here; have z3 := K3.1
  have V3 : Arv Z h3 b kb .byte (4 : Int32) [(.int u0), (.int u1), (.int (OwnKit.i2b x)), (.int u3)] (.int 0) := V3
  refine G.aloadN H3 hx 45 (hb hby d22_44) rfl rfl rfl ?_
  refine G.iloadN H3 hx 46 (hb hby d22_45) rfl rfl ?_
  refine G.iloadN H3 hx 47 (hb hby d22_46) rfl rfl ?_
  refine Wk.getS W3 hx hoZ (wd hw 114 rfl) Via.refl (hLO.ext W3.old) 50 (hb hby d22_47) rfl ?_
  intro T4 W4; have H4 := W4.here
  refine G.ishr H4 hx 51 (hb hby d22_50) rfl ?_
  refine G.i2b H4 hx 52 (hb hby d22_51) rfl ?_
  refine Wk.bastore W4 hx V3 (Or.inl (by simp)) safe0 (OwnKit.i2b (x >>> ((8 : Int32) &&& 31))) (i2b_i2b _) 3 rfl ⟨by decide, by decide⟩ (Nat.le_of_ble_eq_true rfl) 53 (hb hby d22_52) rfl ?_
  intro T5 h5 W5 K5 Ch5 V5; have H5 := W5.here; have z5 := K5.1
  have V5 : Arv Z h5 b kb .byte (4 : Int32) [(.int u0), (.int u1), (.int (OwnKit.i2b x)), (.int (OwnKit.i2b (x >>> ((8 : Int32) &&& 31))))] (.int 0) := V5
  exact Wk.retV W5 hx hret hlk (hb hby d22_53) (by decide) (by decide) ⟨rfl, V5⟩
def QUGc2_1 (Z : State) (b : Addr) (kb : ClassId) (u0 : Int32) (u1 : Int32) (u2 : Int32) (u3 : Int32) (h0 : Heap) : Option Value → Heap → Prop := fun v h => v = some (.int (OwnKit.i2c (((u2 &&& (255 : Int32)) <<< ((0 : Int32) &&& 31)) ||| ((u3 &&& (255 : Int32)) <<< ((8 : Int32) &&& 31))))) ∧ h = h0
set_option maxRecDepth 65536 in
set_option maxHeartbeats 40000000 in
theorem rmUGc2_1 (l : Launch) (Z : State) (a0 : Array Value) (hw : ∀ d ∈ tables_1, d.before a0 Z = true) (b : Addr) (kb : ClassId) (u0 : Int32) (u1 : Int32) (u2 : Int32) (u3 : Int32) (h0 : Heap) (O : Ext Z.heap h0) (hAD : Sta Z Z.heap "java/lang/StringUTF16" "$assertionsDisabled" "Z" (.int 1)) (hHI : Sta Z Z.heap "java/lang/StringUTF16" "HI_BYTE_SHIFT" "I" (.int 0)) (hLO : Sta Z Z.heap "java/lang/StringUTF16" "LO_BYTE_SHIFT" "I" (.int 8)) (Vb : Arv Z h0 b kb .byte 4 [(.int u0), (.int u1), (.int u2), (.int u3)] (.int 0)) :
    CN [] l Z (⟨"java/lang/StringUTF16", "getChar", "([BI)C"⟩ : MethodName) jdk_52_method_5_code 2 (Option.some Jvm.ClassFile.FieldType.char) ({ frames := 1, cells := 0, slots := 0, locals := 14 } : Room) #[(.ref b), (.int (1 : Int32))] h0 [] (QUGc2_1 Z b kb u0 u1 u2 u3 h0) := by
  refine CN.of_walk (plainFor_of_name pn2) O (fun _ q => nomatch q) ?_
  intro p e s m below meth c T0 W0 hx hby hml hoZ hnm hret hlk
  have H0 := W0.here; have hz0 := W0.zsize
  refine Goes.cast (ef4 m b (1 : Int32)) ?_
  refine Wk.getS W0 hx hoZ (wd hw 112 rfl) Via.refl (hAD.ext W0.old) 3 (hb hby d23_0) rfl ?_
  intro T1 W1; have H1 := W1.here
  refine G.ifY H1 hx 28 (hb hby d23_3) (zne (by decide)).2 (by decide) rfl ?_
  refine G.iloadN H1 hx 29 (hb hby d23_28) rfl rfl ?_
  refine G.iconst H1 hx 30 (1 : Int32) (hb hby d23_29) rfl rfl ?_
  refine G.ishlF H1 hx 31 (2 : Int32) (hb hby d23_30) (by decide) rfl ?_
  refine G.istoreNX H1 hx 32 #[.val (.ref b), .val (.int (2 : Int32))] (hb hby d23_31) rfl rfl ?_
  refine G.aloadN H1 hx 33 (hb hby d23_32) rfl rfl rfl ?_
  refine G.iloadN H1 hx 34 (hb hby d23_33) rfl rfl ?_
  refine G.iincX H1 hx 37 #[.val (.ref b), .val (.int (3 : Int32))] (hb hby d23_34) rfl (1 : Int32) rfl rfl rfl ?_
  refine Wk.baload W1 hx Vb ⟨by decide, by decide⟩ (.int u2) rfl 38 (hb hby d23_37) rfl ?_
  refine G.sipush H1 hx 41 (255 : Int32) (hb hby d23_38) rfl rfl ?_
  refine G.iand H1 hx 42 (hb hby d23_41) rfl ?_
  refine Wk.getS W1 hx hoZ (wd hw 113 rfl) Via.refl (hHI.ext W1.old) 45 (hb hby d23_42) rfl ?_
  intro T2 W2; have H2 := W2.here
  refine G.ishl H2 hx 46 (hb hby d23_45) rfl ?_
  refine G.aloadN H2 hx 47 (hb hby d23_46) rfl rfl rfl ?_
  refine G.iloadN H2 hx 48 (hb hby d23_47) rfl rfl ?_
  refine Wk.baload W2 hx Vb ⟨by decide, by decide⟩ (.int u3) rfl 49 (hb hby d23_48) rfl ?_
  refine G.sipush H2 hx 52 (255 : Int32) (hb hby d23_49) rfl rfl ?_
  refine G.iand H2 hx 53 (hb hby d23_52) rfl ?_
  refine Wk.getS W2 hx hoZ (wd hw 114 rfl) Via.refl (hLO.ext W2.old) 56 (hb hby d23_53) rfl ?_
  intro T3 W3; have H3 := W3.here
  refine G.ishl H3 hx 57 (hb hby d23_56) rfl ?_
  refine G.ior H3 hx 58 (hb hby d23_57) rfl ?_
  refine G.i2c H3 hx 59 (hb hby d23_58) rfl ?_
  exact Wk.retN W3 hx (OwnKit.i2c (((u2 &&& (255 : Int32)) <<< ((0 : Int32) &&& 31)) ||| ((u3 &&& (255 : Int32)) <<< ((8 : Int32) &&& 31)))) (t := .char) (nar_c16 (i2c_c16 _)) (by simp) hret hlk (hb hby d23_59) (by decide) (by decide) ⟨rfl, rfl⟩
def QULn3 (Z : State) (b : Addr) (kb : ClassId) (u0 : Int32) (u1 : Int32) (u2 : Int32) (u3 : Int32) (u4 : Int32) (u5 : Int32) (h0 : Heap) : Option Value → Heap → Prop := fun v h => v = some (.int 3) ∧ h = h0
set_option maxRecDepth 65536 in
set_option maxHeartbeats 40000000 in
theorem rmULn3 (l : Launch) (Z : State) (a0 : Array Value) (hw : ∀ d ∈ tables_1, d.before a0 Z = true) (b : Addr) (kb : ClassId) (u0 : Int32) (u1 : Int32) (u2 : Int32) (u3 : Int32) (u4 : Int32) (u5 : Int32) (h0 : Heap) (O : Ext Z.heap h0) (Vb : Arv Z h0 b kb .byte 6 [(.int u0), (.int u1), (.int u2), (.int u3), (.int u4), (.int u5)] (.int 0)) :
    CN [] l Z (⟨"java/lang/StringUTF16", "length", "([B)I"⟩ : MethodName) jdk_52_method_6_code 1 (Option.some Jvm.ClassFile.FieldType.int) ({ frames := 0, cells := 0, slots := 0, locals := 0 } : Room) #[(.ref b)] h0 [] (QULn3 Z b kb u0 u1 u2 u3 u4 u5 h0) := by
  refine CN.of_walk (plainFor_of_name pn2) O (fun _ q => nomatch q) ?_
  intro p e s m below meth c T0 W0 hx hby hml hoZ hnm hret hlk
  have H0 := W0.here; have hz0 := W0.zsize
  refine Goes.cast (ef2 m b) ?_
  refine G.aloadN H0 hx 1 (hb hby d26_0) rfl rfl rfl ?_
  refine Wk.arraylength W0 hx Vb 2 (hb hby d26_1) rfl ?_
  refine G.iconst H0 hx 3 (1 : Int32) (hb hby d26_2) rfl rfl ?_
  refine G.ishrF H0 hx 4 (3 : Int32) (hb hby d26_3) (by decide) rfl ?_
  exact Wk.retI W0 hx hret hlk (hb hby d26_4) (by decide) (by decide) ⟨rfl, rfl⟩
def QUPc3_0 (Z : State) (b : Addr) (kb : ClassId) (x : Int32) (u0 : Int32) (u1 : Int32) (u2 : Int32) (u3 : Int32) (u4 : Int32) (u5 : Int32) (h0 : Heap) : Option Value → Heap → Prop := fun v h => v = none ∧ Arv Z h b kb .byte 6 [(.int (OwnKit.i2b x)), (.int (OwnKit.i2b (x >>> ((8 : Int32) &&& 31)))), (.int u2), (.int u3), (.int u4), (.int u5)] (.int 0)
set_option maxRecDepth 65536 in
set_option maxHeartbeats 40000000 in
theorem rmUPc3_0 (l : Launch) (Z : State) (a0 : Array Value) (hw : ∀ d ∈ tables_1, d.before a0 Z = true) (b : Addr) (kb : ClassId) (x : Int32) (u0 : Int32) (u1 : Int32) (u2 : Int32) (u3 : Int32) (u4 : Int32) (u5 : Int32) (h0 : Heap) (O : Ext Z.heap h0) (hAD : Sta Z Z.heap "java/lang/StringUTF16" "$assertionsDisabled" "Z" (.int 1)) (hHI : Sta Z Z.heap "java/lang/StringUTF16" "HI_BYTE_SHIFT" "I" (.int 0)) (hLO : Sta Z Z.heap "java/lang/StringUTF16" "LO_BYTE_SHIFT" "I" (.int 8)) (gz_b : Z.heap.size ≤ b) (Vb : Arv Z h0 b kb .byte 6 [(.int u0), (.int u1), (.int u2), (.int u3), (.int u4), (.int u5)] (.int 0)) :
    CN [] l Z (⟨"java/lang/StringUTF16", "putChar", "([BII)V"⟩ : MethodName) jdk_52_method_4_code 3 (Option.none : Option Jvm.ClassFile.FieldType) ({ frames := 1, cells := 0, slots := 0, locals := 14 } : Room) #[(.ref b), (.int (0 : Int32)), (.int x)] h0 [b] (QUPc3_0 Z b kb x u0 u1 u2 u3 u4 u5 h0) := by
  refine CN.of_walk (plainFor_of_name pn2) O (ala gz_b ala0) ?_
  intro p e s m below meth c T0 W0 hx hby hml hoZ hnm hret hlk
  have H0 := W0.here; have hz0 := W0.zsize
  refine Goes.cast (ef3 m b (0 : Int32) x) ?_
  refine Wk.getS W0 hx hoZ (wd hw 112 rfl) Via.refl (hAD.ext W0.old) 3 (hb hby d22_0) rfl ?_
  intro T1 W1; have H1 := W1.here
  refine G.ifY H1 hx 28 (hb hby d22_3) (zne (by decide)).2 (by decide) rfl ?_
  refine G.iloadN H1 hx 29 (hb hby d22_28) rfl rfl ?_
  refine G.iconst H1 hx 30 (1 : Int32) (hb hby d22_29) rfl rfl ?_
  refine G.ishlF H1 hx 31 (0 : Int32) (hb hby d22_30) (by decide) rfl ?_
  refine G.istoreNX H1 hx 32 #[.val (.ref b), .val (.int (0 : Int32)), .val (.int x)] (hb hby d22_31) rfl rfl ?_
  refine G.aloadN H1 hx 33 (hb hby d22_32) rfl rfl rfl ?_
  refine G.iloadN H1 hx 34 (hb hby d22_33) rfl rfl ?_
  refine G.iincX H1 hx 37 #[.val (.ref b), .val (.int (1 : Int32)), .val (.int x)] (hb hby d22_34) rfl (1 : Int32) rfl rfl rfl ?_
  refine G.iloadN H1 hx 38 (hb hby d22_37) rfl rfl ?_
  refine Wk.getS W1 hx hoZ (wd hw 113 rfl) Via.refl (hHI.ext W1.old) 41 (hb hby d22_38) rfl ?_
  intro T2 W2; have H2 := W2.here
  refine G.ishr H2 hx 42 (hb hby d22_41) rfl ?_
  refine G.i2b H2 hx 43 (hb hby d22_42) rfl ?_
  refine Wk.bastore W2 hx Vb (Or.inl (by simp)) safe0 (OwnKit.i2b x) (by rw [StrChars.shr0]; exact i2b_i2b _) 0 rfl ⟨by decide, by decide⟩ (Nat.le_of_ble_eq_true rfl) 44 (hb hby d22_43) rfl ?_
  intro T3 h3 W3 K3 Ch3 V3; have H3 := W3.here; have z3 := K3.1
  have V3 : Arv Z h3 b kb .byte (6 : Int32) [(.int (OwnKit.i2b x)), (.int u1), (.int u2), (.int u3), (.int u4), (.int u5)] (.int 0) := V3
  refine G.aloadN H3 hx 45 (hb hby d22_44) rfl rfl rfl ?_
  refine G.iloadN H3 hx 46 (hb hby d22_45) rfl rfl ?_
  refine G.iloadN H3 hx 47 (hb hby d22_46) rfl rfl ?_
  refine Wk.getS W3 hx hoZ (wd hw 114 rfl) Via.refl (hLO.ext W3.old) 50 (hb hby d22_47) rfl ?_
  intro T4 W4; have H4 := W4.here
  refine G.ishr H4 hx 51 (hb hby d22_50) rfl ?_
  refine G.i2b H4 hx 52 (hb hby d22_51) rfl ?_
  refine Wk.bastore W4 hx V3 (Or.inl (by simp)) safe0 (OwnKit.i2b (x >>> ((8 : Int32) &&& 31))) (i2b_i2b _) 1 rfl ⟨by decide, by decide⟩ (Nat.le_of_ble_eq_true rfl) 53 (hb hby d22_52) rfl ?_
  intro T5 h5 W5 K5 Ch5 V5; have H5 := W5.here; have z5 := K5.1
  have V5 : Arv Z h5 b kb .byte (6 : Int32) [(.int (OwnKit.i2b x)), (.int (OwnKit.i2b (x >>> ((8 : Int32) &&& 31)))), (.int u2), (.int u3), (.int u4), (.int u5)] (.int 0) := V5
  exact Wk.retV W5 hx hret hlk (hb hby d22_53) (by decide) (by decide) ⟨rfl, V5⟩
def QUGc3_0 (Z : State) (b : Addr) (kb : ClassId) (u0 : Int32) (u1 : Int32) (u2 : Int32) (u3 : Int32) (u4 : Int32) (u5 : Int32) (h0 : Heap) : Option Value → Heap → Prop := fun v h => v = some (.int (OwnKit.i2c (((u0 &&& (255 : Int32)) <<< ((0 : Int32) &&& 31)) ||| ((u1 &&& (255 : Int32)) <<< ((8 : Int32) &&& 31))))) ∧ h = h0
set_option maxRecDepth 65536 in
set_option maxHeartbeats 40000000 in
theorem rmUGc3_0 (l : Launch) (Z : State) (a0 : Array Value) (hw : ∀ d ∈ tables_1, d.before a0 Z = true) (b : Addr) (kb : ClassId) (u0 : Int32) (u1 : Int32) (u2 : Int32) (u3 : Int32) (u4 : Int32) (u5 : Int32) (h0 : Heap) (O : Ext Z.heap h0) (hAD : Sta Z Z.heap "java/lang/StringUTF16" "$assertionsDisabled" "Z" (.int 1)) (hHI : Sta Z Z.heap "java/lang/StringUTF16" "HI_BYTE_SHIFT" "I" (.int 0)) (hLO : Sta Z Z.heap "java/lang/StringUTF16" "LO_BYTE_SHIFT" "I" (.int 8)) (Vb : Arv Z h0 b kb .byte 6 [(.int u0), (.int u1), (.int u2), (.int u3), (.int u4), (.int u5)] (.int 0)) :
    CN [] l Z (⟨"java/lang/StringUTF16", "getChar", "([BI)C"⟩ : MethodName) jdk_52_method_5_code 2 (Option.some Jvm.ClassFile.FieldType.char) ({ frames := 1, cells := 0, slots := 0, locals := 14 } : Room) #[(.ref b), (.int (0 : Int32))] h0 [] (QUGc3_0 Z b kb u0 u1 u2 u3 u4 u5 h0) := by
  refine CN.of_walk (plainFor_of_name pn2) O (fun _ q => nomatch q) ?_
  intro p e s m below meth c T0 W0 hx hby hml hoZ hnm hret hlk
  have H0 := W0.here; have hz0 := W0.zsize
  refine Goes.cast (ef4 m b (0 : Int32)) ?_
  refine Wk.getS W0 hx hoZ (wd hw 112 rfl) Via.refl (hAD.ext W0.old) 3 (hb hby d23_0) rfl ?_
  intro T1 W1; have H1 := W1.here
  refine G.ifY H1 hx 28 (hb hby d23_3) (zne (by decide)).2 (by decide) rfl ?_
  refine G.iloadN H1 hx 29 (hb hby d23_28) rfl rfl ?_
  refine G.iconst H1 hx 30 (1 : Int32) (hb hby d23_29) rfl rfl ?_
  refine G.ishlF H1 hx 31 (0 : Int32) (hb hby d23_30) (by decide) rfl ?_
  refine G.istoreNX H1 hx 32 #[.val (.ref b), .val (.int (0 : Int32))] (hb hby d23_31) rfl rfl ?_
  refine G.aloadN H1 hx 33 (hb hby d23_32) rfl rfl rfl ?_
  refine G.iloadN H1 hx 34 (hb hby d23_33) rfl rfl ?_
  refine G.iincX H1 hx 37 #[.val (.ref b), .val (.int (1 : Int32))] (hb hby d23_34) rfl (1 : Int32) rfl rfl rfl ?_
  refine Wk.baload W1 hx Vb ⟨by decide, by decide⟩ (.int u0) rfl 38 (hb hby d23_37) rfl ?_
  refine G.sipush H1 hx 41 (255 : Int32) (hb hby d23_38) rfl rfl ?_
  refine G.iand H1 hx 42 (hb hby d23_41) rfl ?_
  refine Wk.getS W1 hx hoZ (wd hw 113 rfl) Via.refl (hHI.ext W1.old) 45 (hb hby d23_42) rfl ?_
  intro T2 W2; have H2 := W2.here
  refine G.ishl H2 hx 46 (hb hby d23_45) rfl ?_
  refine G.aloadN H2 hx 47 (hb hby d23_46) rfl rfl rfl ?_
  refine G.iloadN H2 hx 48 (hb hby d23_47) rfl rfl ?_
  refine Wk.baload W2 hx Vb ⟨by decide, by decide⟩ (.int u1) rfl 49 (hb hby d23_48) rfl ?_
  refine G.sipush H2 hx 52 (255 : Int32) (hb hby d23_49) rfl rfl ?_
  refine G.iand H2 hx 53 (hb hby d23_52) rfl ?_
  refine Wk.getS W2 hx hoZ (wd hw 114 rfl) Via.refl (hLO.ext W2.old) 56 (hb hby d23_53) rfl ?_
  intro T3 W3; have H3 := W3.here
  refine G.ishl H3 hx 57 (hb hby d23_56) rfl ?_
  refine G.ior H3 hx 58 (hb hby d23_57) rfl ?_
  refine G.i2c H3 hx 59 (hb hby d23_58) rfl ?_
  exact Wk.retN W3 hx (OwnKit.i2c (((u0 &&& (255 : Int32)) <<< ((0 : Int32) &&& 31)) ||| ((u1 &&& (255 : Int32)) <<< ((8 : Int32) &&& 31)))) (t := .char) (nar_c16 (i2c_c16 _)) (by simp) hret hlk (hb hby d23_59) (by decide) (by decide) ⟨rfl, rfl⟩
def QUPc3_1 (Z : State) (b : Addr) (kb : ClassId) (x : Int32) (u0 : Int32) (u1 : Int32) (u2 : Int32) (u3 : Int32) (u4 : Int32) (u5 : Int32) (h0 : Heap) : Option Value → Heap → Prop := fun v h => v = none ∧ Arv Z h b kb .byte 6 [(.int u0), (.int u1), (.int (OwnKit.i2b x)), (.int (OwnKit.i2b (x >>> ((8 : Int32) &&& 31)))), (.int u4), (.int u5)] (.int 0)
set_option maxRecDepth 65536 in
set_option maxHeartbeats 40000000 in
theorem rmUPc3_1 (l : Launch) (Z : State) (a0 : Array Value) (hw : ∀ d ∈ tables_1, d.before a0 Z = true) (b : Addr) (kb : ClassId) (x : Int32) (u0 : Int32) (u1 : Int32) (u2 : Int32) (u3 : Int32) (u4 : Int32) (u5 : Int32) (h0 : Heap) (O : Ext Z.heap h0) (hAD : Sta Z Z.heap "java/lang/StringUTF16" "$assertionsDisabled" "Z" (.int 1)) (hHI : Sta Z Z.heap "java/lang/StringUTF16" "HI_BYTE_SHIFT" "I" (.int 0)) (hLO : Sta Z Z.heap "java/lang/StringUTF16" "LO_BYTE_SHIFT" "I" (.int 8)) (gz_b : Z.heap.size ≤ b) (Vb : Arv Z h0 b kb .byte 6 [(.int u0), (.int u1), (.int u2), (.int u3), (.int u4), (.int u5)] (.int 0)) :
    CN [] l Z (⟨"java/lang/StringUTF16", "putChar", "([BII)V"⟩ : MethodName) jdk_52_method_4_code 3 (Option.none : Option Jvm.ClassFile.FieldType) ({ frames := 1, cells := 0, slots := 0, locals := 14 } : Room) #[(.ref b), (.int (1 : Int32)), (.int x)] h0 [b] (QUPc3_1 Z b kb x u0 u1 u2 u3 u4 u5 h0) := by
  refine CN.of_walk (plainFor_of_name pn2) O (ala gz_b ala0) ?_
  intro p e s m below meth c T0 W0 hx hby hml hoZ hnm hret hlk
  have H0 := W0.here; have hz0 := W0.zsize
  refine Goes.cast (ef3 m b (1 : Int32) x) ?_
  refine Wk.getS W0 hx hoZ (wd hw 112 rfl) Via.refl (hAD.ext W0.old) 3 (hb hby d22_0) rfl ?_
  intro T1 W1; have H1 := W1.here
  refine G.ifY H1 hx 28 (hb hby d22_3) (zne (by decide)).2 (by decide) rfl ?_
  refine G.iloadN H1 hx 29 (hb hby d22_28) rfl rfl ?_
  refine G.iconst H1 hx 30 (1 : Int32) (hb hby d22_29) rfl rfl ?_
  refine G.ishlF H1 hx 31 (2 : Int32) (hb hby d22_30) (by decide) rfl ?_
  refine G.istoreNX H1 hx 32 #[.val (.ref b), .val (.int (2 : Int32)), .val (.int x)] (hb hby d22_31) rfl rfl ?_
  refine G.aloadN H1 hx 33 (hb hby d22_32) rfl rfl rfl ?_
  refine G.iloadN H1 hx 34 (hb hby d22_33) rfl rfl ?_
  refine G.iincX H1 hx 37 #[.val (.ref b), .val (.int (3 : Int32)), .val (.int x)] (hb hby d22_34) rfl (1 : Int32) rfl rfl rfl ?_
  refine G.iloadN H1 hx 38 (hb hby d22_37) rfl rfl ?_
  refine Wk.getS W1 hx hoZ (wd hw 113 rfl) Via.refl (hHI.ext W1.old) 41 (hb hby d22_38) rfl ?_
  intro T2 W2; have H2 := W2.here
  refine G.ishr H2 hx 42 (hb hby d22_41) rfl ?_
  refine G.i2b H2 hx 43 (hb hby d22_42) rfl ?_
  refine Wk.bastore W2 hx Vb (Or.inl (by simp)) safe0 (OwnKit.i2b x) (by rw [StrChars.shr0]; exact i2b_i2b _) 2 rfl ⟨by decide, by decide⟩ (Nat.le_of_ble_eq_true rfl) 44 (hb hby d22_43) rfl ?_
  intro T3 h3 W3 K3 Ch3 V3; have H3 := W3.here; have z3 := K3.1
  have V3 : Arv Z h3 b kb .byte (6 : Int32) [(.int u0), (.int u1), (.int (OwnKit.i2b x)), (.int u3), (.int u4), (.int u5)] (.int 0) := V3
  refine G.aloadN H3 hx 45 (hb hby d22_44) rfl rfl rfl ?_
  refine G.iloadN H3 hx 46 (hb hby d22_45) rfl rfl ?_
  refine G.iloadN H3 hx 47 (hb hby d22_46) rfl rfl ?_
  refine Wk.getS W3 hx hoZ (wd hw 114 rfl) Via.refl (hLO.ext W3.old) 50 (hb hby d22_47) rfl ?_
  intro T4 W4; have H4 := W4.here
  refine G.ishr H4 hx 51 (hb hby d22_50) rfl ?_
  refine G.i2b H4 hx 52 (hb hby d22_51) rfl ?_
  refine Wk.bastore W4 hx V3 (Or.inl (by simp)) safe0 (OwnKit.i2b (x >>> ((8 : Int32) &&& 31))) (i2b_i2b _) 3 rfl ⟨by decide, by decide⟩ (Nat.le_of_ble_eq_true rfl) 53 (hb hby d22_52) rfl ?_
  intro T5 h5 W5 K5 Ch5 V5; have H5 := W5.here; have z5 := K5.1
  have V5 : Arv Z h5 b kb .byte (6 : Int32) [(.int u0), (.int u1), (.int (OwnKit.i2b x)), (.int (OwnKit.i2b (x >>> ((8 : Int32) &&& 31)))), (.int u4), (.int u5)] (.int 0) := V5
  exact Wk.retV W5 hx hret hlk (hb hby d22_53) (by decide) (by decide) ⟨rfl, V5⟩
def QUGc3_1 (Z : State) (b : Addr) (kb : ClassId) (u0 : Int32) (u1 : Int32) (u2 : Int32) (u3 : Int32) (u4 : Int32) (u5 : Int32) (h0 : Heap) : Option Value → Heap → Prop := fun v h => v = some (.int (OwnKit.i2c (((u2 &&& (255 : Int32)) <<< ((0 : Int32) &&& 31)) ||| ((u3 &&& (255 : Int32)) <<< ((8 : Int32) &&& 31))))) ∧ h = h0
set_option maxRecDepth 65536 in
set_option maxHeartbeats 40000000 in
theorem rmUGc3_1 (l : Launch) (Z : State) (a0 : Array Value) (hw : ∀ d ∈ tables_1, d.before a0 Z = true) (b : Addr) (kb : ClassId) (u0 : Int32) (u1 : Int32) (u2 : Int32) (u3 : Int32) (u4 : Int32) (u5 : Int32) (h0 : Heap) (O : Ext Z.heap h0) (hAD : Sta Z Z.heap "java/lang/StringUTF16" "$assertionsDisabled" "Z" (.int 1)) (hHI : Sta Z Z.heap "java/lang/StringUTF16" "HI_BYTE_SHIFT" "I" (.int 0)) (hLO : Sta Z Z.heap "java/lang/StringUTF16" "LO_BYTE_SHIFT" "I" (.int 8)) (Vb : Arv Z h0 b kb .byte 6 [(.int u0), (.int u1), (.int u2), (.int u3), (.int u4), (.int u5)] (.int 0)) :
    CN [] l Z (⟨"java/lang/StringUTF16", "getChar", "([BI)C"⟩ : MethodName) jdk_52_method_5_code 2 (Option.some Jvm.ClassFile.FieldType.char) ({ frames := 1, cells := 0, slots := 0, locals := 14 } : Room) #[(.ref b), (.int (1 : Int32))] h0 [] (QUGc3_1 Z b kb u0 u1 u2 u3 u4 u5 h0) := by
  refine CN.of_walk (plainFor_of_name pn2) O (fun _ q => nomatch q) ?_
  intro p e s m below meth c T0 W0 hx hby hml hoZ hnm hret hlk
  have H0 := W0.here; have hz0 := W0.zsize
  refine Goes.cast (ef4 m b (1 : Int32)) ?_
  refine Wk.getS W0 hx hoZ (wd hw 112 rfl) Via.refl (hAD.ext W0.old) 3 (hb hby d23_0) rfl ?_
  intro T1 W1; have H1 := W1.here
  refine G.ifY H1 hx 28 (hb hby d23_3) (zne (by decide)).2 (by decide) rfl ?_
  refine G.iloadN H1 hx 29 (hb hby d23_28) rfl rfl ?_
  refine G.iconst H1 hx 30 (1 : Int32) (hb hby d23_29) rfl rfl ?_
  refine G.ishlF H1 hx 31 (2 : Int32) (hb hby d23_30) (by decide) rfl ?_
  refine G.istoreNX H1 hx 32 #[.val (.ref b), .val (.int (2 : Int32))] (hb hby d23_31) rfl rfl ?_
  refine G.aloadN H1 hx 33 (hb hby d23_32) rfl rfl rfl ?_
  refine G.iloadN H1 hx 34 (hb hby d23_33) rfl rfl ?_
  refine G.iincX H1 hx 37 #[.val (.ref b), .val (.int (3 : Int32))] (hb hby d23_34) rfl (1 : Int32) rfl rfl rfl ?_
  refine Wk.baload W1 hx Vb ⟨by decide, by decide⟩ (.int u2) rfl 38 (hb hby d23_37) rfl ?_
  refine G.sipush H1 hx 41 (255 : Int32) (hb hby d23_38) rfl rfl ?_
  refine G.iand H1 hx 42 (hb hby d23_41) rfl ?_
  refine Wk.getS W1 hx hoZ (wd hw 113 rfl) Via.refl (hHI.ext W1.old) 45 (hb hby d23_42) rfl ?_
  intro T2 W2; have H2 := W2.here
  refine G.ishl H2 hx 46 (hb hby d23_45) rfl ?_
  refine G.aloadN H2 hx 47 (hb hby d23_46) rfl rfl rfl ?_
  refine G.iloadN H2 hx 48 (hb hby d23_47) rfl rfl ?_
  refine Wk.baload W2 hx Vb ⟨by decide, by decide⟩ (.int u3) rfl 49 (hb hby d23_48) rfl ?_
  refine G.sipush H2 hx 52 (255 : Int32) (hb hby d23_49) rfl rfl ?_
  refine G.iand H2 hx 53 (hb hby d23_52) rfl ?_
  refine Wk.getS W2 hx hoZ (wd hw 114 rfl) Via.refl (hLO.ext W2.old) 56 (hb hby d23_53) rfl ?_
  intro T3 W3; have H3 := W3.here
  refine G.ishl H3 hx 57 (hb hby d23_56) rfl ?_
  refine G.ior H3 hx 58 (hb hby d23_57) rfl ?_
  refine G.i2c H3 hx 59 (hb hby d23_58) rfl ?_
  exact Wk.retN W3 hx (OwnKit.i2c (((u2 &&& (255 : Int32)) <<< ((0 : Int32) &&& 31)) ||| ((u3 &&& (255 : Int32)) <<< ((8 : Int32) &&& 31)))) (t := .char) (nar_c16 (i2c_c16 _)) (by simp) hret hlk (hb hby d23_59) (by decide) (by decide) ⟨rfl, rfl⟩
def QUPc3_2 (Z : State) (b : Addr) (kb : ClassId) (x : Int32) (u0 : Int32) (u1 : Int32) (u2 : Int32) (u3 : Int32) (u4 : Int32) (u5 : Int32) (h0 : Heap) : Option Value → Heap → Prop := fun v h => v = none ∧ Arv Z h b kb .byte 6 [(.int u0), (.int u1), (.int u2), (.int u3), (.int (OwnKit.i2b x)), (.int (OwnKit.i2b (x >>> ((8 : Int32) &&& 31))))] (.int 0)
set_option maxRecDepth 65536 in
set_option maxHeartbeats 40000000 in
theorem rmUPc3_2 (l : Launch) (Z : State) (a0 : Array Value) (hw : ∀ d ∈ tables_1, d.before a0 Z = true) (b : Addr) (kb : ClassId) (x : Int32) (u0 : Int32) (u1 : Int32) (u2 : Int32) (u3 : Int32) (u4 : Int32) (u5 : Int32) (h0 : Heap) (O : Ext Z.heap h0) (hAD : Sta Z Z.heap "java/lang/StringUTF16" "$assertionsDisabled" "Z" (.int 1)) (hHI : Sta Z Z.heap "java/lang/StringUTF16" "HI_BYTE_SHIFT" "I" (.int 0)) (hLO : Sta Z Z.heap "java/lang/StringUTF16" "LO_BYTE_SHIFT" "I" (.int 8)) (gz_b : Z.heap.size ≤ b) (Vb : Arv Z h0 b kb .byte 6 [(.int u0), (.int u1), (.int u2), (.int u3), (.int u4), (.int u5)] (.int 0)) :
    CN [] l Z (⟨"java/lang/StringUTF16", "putChar", "([BII)V"⟩ : MethodName) jdk_52_method_4_code 3 (Option.none : Option Jvm.ClassFile.FieldType) ({ frames := 1, cells := 0, slots := 0, locals := 14 } : Room) #[(.ref b), (.int (2 : Int32)), (.int x)] h0 [b] (QUPc3_2 Z b kb x u0 u1 u2 u3 u4 u5 h0) := by
  refine CN.of_walk (plainFor_of_name pn2) O (ala gz_b ala0) ?_
  intro p e s m below meth c T0 W0 hx hby hml hoZ hnm hret hlk
  have H0 := W0.here; have hz0 := W0.zsize
  refine Goes.cast (ef3 m b (2 : Int32) x) ?_
  refine Wk.getS W0 hx hoZ (wd hw 112 rfl) Via.refl (hAD.ext W0.old) 3 (hb hby d22_0) rfl ?_
  intro T1 W1; have H1 := W1.here
  refine G.ifY H1 hx 28 (hb hby d22_3) (zne (by decide)).2 (by decide) rfl ?_
  refine G.iloadN H1 hx 29 (hb hby d22_28) rfl rfl ?_
  refine G.iconst H1 hx 30 (1 : Int32) (hb hby d22_29) rfl rfl ?_
  refine G.ishlF H1 hx 31 (4 : Int32) (hb hby d22_30) (by decide) rfl ?_
  refine G.istoreNX H1 hx 32 #[.val (.ref b), .val (.int (4 : Int32)), .val (.int x)] (hb hby d22_31) rfl rfl ?_
  refine G.aloadN H1 hx 33 (hb hby d22_32) rfl rfl rfl ?_
  refine G.iloadN H1 hx 34 (hb hby d22_33) rfl rfl ?_
  refine G.iincX H1 hx 37 #[.val (.ref b), .val (.int (5 : Int32)), .val (.int x)] (hb hby d22_34) rfl (1 : Int32) rfl rfl rfl ?_
  refine G.iloadN H1 hx 38 (hb hby d22_37) rfl rfl ?_
  refine Wk.getS W1 hx hoZ (wd hw 113 rfl) Via.refl (hHI.ext W1.old) 41 (hb hby d22_38) rfl ?_
  intro T2 W2; have H2 := W2.here
  refine G.ishr H2 hx 42 (hb hby d22_41) rfl ?_
  refine G.i2b H2 hx 43 (hb hby d22_42) rfl ?_
  refine Wk.bastore W2 hx Vb (Or.inl (by simp)) safe0 (OwnKit.i2b x) (by rw [StrChars.shr0]; exact i2b_i2b _) 4 rfl ⟨by decide, by decide⟩ (Nat.le_of_ble_eq_true rfl) 44 (hb hby d22_43) rfl ?_
  intro T3 h3 W3 K3 Ch3 V3; have H3 := W3.here; have z3 := K3.1
  have V3 : Arv Z h3 b kb .byte (6 : Int32) [(.int u0), (.int u1), (.int u2), (.int u3), (.int (OwnKit.i2b x)), (.int u5)] (.int 0) := V3
  refine G.aloadN H3 hx 45 (hb hby d22_44) rfl rfl rfl ?_
  refine G.iloadN H3 hx 46 (hb hby d22_45) rfl rfl ?_
  refine G.iloadN H3 hx 47 (hb hby d22_46) rfl rfl ?_
  refine Wk.getS W3 hx hoZ (wd hw 114 rfl) Via.refl (hLO.ext W3.old) 50 (hb hby d22_47) rfl ?_
  intro T4 W4; have H4 := W4.here
  refine G.ishr H4 hx 51 (hb hby d22_50) rfl ?_
  refine G.i2b H4 hx 52 (hb hby d22_51) rfl ?_
  refine Wk.bastore W4 hx V3 (Or.inl (by simp)) safe0 (OwnKit.i2b (x >>> ((8 : Int32) &&& 31))) (i2b_i2b _) 5 rfl ⟨by decide, by decide⟩ (Nat.le_of_ble_eq_true rfl) 53 (hb hby d22_52) rfl ?_
  intro T5 h5 W5 K5 Ch5 V5; have H5 := W5.here; have z5 := K5.1
  have V5 : Arv Z h5 b kb .byte (6 : Int32) [(.int u0), (.int u1), (.int u2), (.int u3), (.int (OwnKit.i2b x)), (.int (OwnKit.i2b (x >>> ((8 : Int32) &&& 31))))] (.int 0) := V5
  exact Wk.retV W5 hx hret hlk (hb hby d22_53) (by decide) (by decide) ⟨rfl, V5⟩
def QUGc3_2 (Z : State) (b : Addr) (kb : ClassId) (u0 : Int32) (u1 : Int32) (u2 : Int32) (u3 : Int32) (u4 : Int32) (u5 : Int32) (h0 : Heap) : Option Value → Heap → Prop := fun v h => v = some (.int (OwnKit.i2c (((u4 &&& (255 : Int32)) <<< ((0 : Int32) &&& 31)) ||| ((u5 &&& (255 : Int32)) <<< ((8 : Int32) &&& 31))))) ∧ h = h0
set_option maxRecDepth 65536 in
set_option maxHeartbeats 40000000 in
theorem rmUGc3_2 (l : Launch) (Z : State) (a0 : Array Value) (hw : ∀ d ∈ tables_1, d.before a0 Z = true) (b : Addr) (kb : ClassId) (u0 : Int32) (u1 : Int32) (u2 : Int32) (u3 : Int32) (u4 : Int32) (u5 : Int32) (h0 : Heap) (O : Ext Z.heap h0) (hAD : Sta Z Z.heap "java/lang/StringUTF16" "$assertionsDisabled" "Z" (.int 1)) (hHI : Sta Z Z.heap "java/lang/StringUTF16" "HI_BYTE_SHIFT" "I" (.int 0)) (hLO : Sta Z Z.heap "java/lang/StringUTF16" "LO_BYTE_SHIFT" "I" (.int 8)) (Vb : Arv Z h0 b kb .byte 6 [(.int u0), (.int u1), (.int u2), (.int u3), (.int u4), (.int u5)] (.int 0)) :
    CN [] l Z (⟨"java/lang/StringUTF16", "getChar", "([BI)C"⟩ : MethodName) jdk_52_method_5_code 2 (Option.some Jvm.ClassFile.FieldType.char) ({ frames := 1, cells := 0, slots := 0, locals := 14 } : Room) #[(.ref b), (.int (2 : Int32))] h0 [] (QUGc3_2 Z b kb u0 u1 u2 u3 u4 u5 h0) := by
  refine CN.of_walk (plainFor_of_name pn2) O (fun _ q => nomatch q) ?_
  intro p e s m below meth c T0 W0 hx hby hml hoZ hnm hret hlk
  have H0 := W0.here; have hz0 := W0.zsize
  refine Goes.cast (ef4 m b (2 : Int32)) ?_
  refine Wk.getS W0 hx hoZ (wd hw 112 rfl) Via.refl (hAD.ext W0.old) 3 (hb hby d23_0) rfl ?_
  intro T1 W1; have H1 := W1.here
  refine G.ifY H1 hx 28 (hb hby d23_3) (zne (by decide)).2 (by decide) rfl ?_
  refine G.iloadN H1 hx 29 (hb hby d23_28) rfl rfl ?_
  refine G.iconst H1 hx 30 (1 : Int32) (hb hby d23_29) rfl rfl ?_
  refine G.ishlF H1 hx 31 (4 : Int32) (hb hby d23_30) (by decide) rfl ?_
  refine G.istoreNX H1 hx 32 #[.val (.ref b), .val (.int (4 : Int32))] (hb hby d23_31) rfl rfl ?_
  refine G.aloadN H1 hx 33 (hb hby d23_32) rfl rfl rfl ?_
  refine G.iloadN H1 hx 34 (hb hby d23_33) rfl rfl ?_
  refine G.iincX H1 hx 37 #[.val (.ref b), .val (.int (5 : Int32))] (hb hby d23_34) rfl (1 : Int32) rfl rfl rfl ?_
  refine Wk.baload W1 hx Vb ⟨by decide, by decide⟩ (.int u4) rfl 38 (hb hby d23_37) rfl ?_
  refine G.sipush H1 hx 41 (255 : Int32) (hb hby d23_38) rfl rfl ?_
  refine G.iand H1 hx 42 (hb hby d23_41) rfl ?_
  refine Wk.getS W1 hx hoZ (wd hw 113 rfl) Via.refl (hHI.ext W1.old) 45 (hb hby d23_42) rfl ?_
  intro T2 W2; have H2 := W2.here
  refine G.ishl H2 hx 46 (hb hby d23_45) rfl ?_
  refine G.aloadN H2 hx 47 (hb hby d23_46) rfl rfl rfl ?_
  refine G.iloadN H2 hx 48 (hb hby d23_47) rfl rfl ?_
  refine Wk.baload W2 hx Vb ⟨by decide, by decide⟩ (.int u5) rfl 49 (hb hby d23_48) rfl ?_
  refine G.sipush H2 hx 52 (255 : Int32) (hb hby d23_49) rfl rfl ?_
  refine G.iand H2 hx 53 (hb hby d23_52) rfl ?_
  refine Wk.getS W2 hx hoZ (wd hw 114 rfl) Via.refl (hLO.ext W2.old) 56 (hb hby d23_53) rfl ?_
  intro T3 W3; have H3 := W3.here
  refine G.ishl H3 hx 57 (hb hby d23_56) rfl ?_
  refine G.ior H3 hx 58 (hb hby d23_57) rfl ?_
  refine G.i2c H3 hx 59 (hb hby d23_58) rfl ?_
  exact Wk.retN W3 hx (OwnKit.i2c (((u4 &&& (255 : Int32)) <<< ((0 : Int32) &&& 31)) ||| ((u5 &&& (255 : Int32)) <<< ((8 : Int32) &&& 31)))) (t := .char) (nar_c16 (i2c_c16 _)) (by simp) hret hlk (hb hby d23_59) (by decide) (by decide) ⟨rfl, rfl⟩
def QUCm1 (Z : State) (pz : Addr) (kp : ClassId) (c0 : Int32) (q : Addr) (kq : ClassId) (h0 : Heap) : Option Value → Heap → Prop := fun v h => v = some (.int (if (255 : Int32) < c0 then (0 : Int32) else (1 : Int32)))
set_option maxRecDepth 65536 in
set_option maxHeartbeats 40000000 in
theorem rmUCm1 (l : Launch) (Z : State) (a0 : Array Value) (hw : ∀ d ∈ tables_1, d.before a0 Z = true) (pz : Addr) (kp : ClassId) (c0 : Int32) (q : Addr) (kq : ClassId) (h0 : Heap) (O : Ext Z.heap h0) (Vp : Arv Z h0 pz kp .char 1 [(.int c0)] (.int 0)) (gz_q : Z.heap.size ≤ q) (Vq : Arv Z h0 q kq .byte 1 [(.int (0 : Int32))] (.int 0)) (npq0 : pz ≠ q) :
    CN [] l Z (⟨"java/lang/StringUTF16", "compress", "([CI[BII)I"⟩ : MethodName) jdk_52_method_21_code 7 (Option.some Jvm.ClassFile.FieldType.int) ({ frames := 0, cells := 0, slots := 0, locals := 0 } : Room) #[(.ref pz), (.int (0 : Int32)), (.ref q), (.int (0 : Int32)), (.int (1 : Int32))] h0 [q] (QUCm1 Z pz kp c0 q kq h0) := by
  refine CN.of_walk (plainFor_of_name pn2) O (ala gz_q ala0) ?_
  intro p e s m below meth c T0 W0 hx hby hml hoZ hnm hret hlk
  have H0 := W0.here; have hz0 := W0.zsize
  refine Goes.cast (ef5 m pz (0 : Int32) q (0 : Int32) (1 : Int32)) ?_
  have lp := ltN Vp.lt
  have lq := ltN Vq.lt; have npq := neN npq0
  refine G.iconst H0 hx 1 (0 : Int32) (hb hby d12_0) rfl rfl ?_
  refine G.istoreX H0 hx 3 #[.val (.ref pz), .val (.int (0 : Int32)), .val (.ref q), .val (.int (0 : Int32)), .val (.int (1 : Int32)), .val (.int (0 : Int32)), .unset] (hb hby d12_1) rfl rfl ?_
  refine G.iload H0 hx 5 (hb hby d12_3) rfl rfl ?_
  refine G.iload H0 hx 7 (hb hby d12_5) rfl rfl ?_
  refine G.icmpN H0 hx 10 (hb hby d12_7) (tlt (by decide)).2.1 rfl ?_
  refine G.aloadN H0 hx 11 (hb hby d12_10) rfl rfl rfl ?_
  refine G.iloadN H0 hx 12 (hb hby d12_11) rfl rfl ?_
  refine Wk.caload W0 hx Vp ⟨by decide, by decide⟩ (.int c0) rfl 13 (hb hby d12_12) rfl ?_
  refine G.istoreX H0 hx 15 #[.val (.ref pz), .val (.int (0 : Int32)), .val (.ref q), .val (.int (0 : Int32)), .val (.int (1 : Int32)), .val (.int (0 : Int32)), .val (.int c0)] (hb hby d12_13) rfl rfl ?_
  refine G.iload H0 hx 17 (hb hby d12_15) rfl rfl ?_
  refine G.sipush H0 hx 20 (255 : Int32) (hb hby d12_17) rfl rfl ?_
  by_cases c20_1 : (255 : Int32) < c0
  ·
    refine G.icmpN H0 hx 23 (hb hby d12_20) (tlt c20_1).2.2.2 rfl ?_
    refine G.iload H0 hx 25 (hb hby d12_23) rfl rfl ?_
    exact Wk.retI W0 hx hret hlk (hb hby d12_25) (by decide) (by decide) (by unfold QUCm1; simp only [if_pos c20_1])
  ·
    refine G.icmpY H0 hx 26 (hb hby d12_20) (flt c20_1).2.2.2 (by decide) rfl ?_
    refine G.aloadN H0 hx 27 (hb hby d12_26) rfl rfl rfl ?_
    refine G.iloadN H0 hx 28 (hb hby d12_27) rfl rfl ?_
    refine G.iload H0 hx 30 (hb hby d12_28) rfl rfl ?_
    refine G.i2b H0 hx 31 (hb hby d12_30) rfl ?_
    refine Wk.bastore W0 hx Vq (Or.inl (by simp)) safe0 (OwnKit.i2b c0) (i2b_i2b _) 0 rfl ⟨by decide, by decide⟩ (Nat.le_of_ble_eq_true rfl) 32 (hb hby d12_31) rfl ?_
    intro T2 h2 W2 K2 Ch2 V2; have H2 := W2.here; have z2 := K2.1
    have V2 : Arv Z h2 q kq .byte (1 : Int32) [(.int (OwnKit.i2b c0))] (.int 0) := V2
    refine G.iincX H2 hx 35 #[.val (.ref pz), .val (.int (1 : Int32)), .val (.ref q), .val (.int (0 : Int32)), .val (.int (1 : Int32)), .val (.int (0 : Int32)), .val (.int c0)] (hb hby d12_32) rfl (1 : Int32) rfl rfl rfl ?_
    refine G.iincX H2 hx 38 #[.val (.ref pz), .val (.int (1 : Int32)), .val (.ref q), .val (.int (1 : Int32)), .val (.int (1 : Int32)), .val (.int (0 : Int32)), .val (.int c0)] (hb hby d12_35) rfl (1 : Int32) rfl rfl rfl ?_
    refine G.iincX H2 hx 41 #[.val (.ref pz), .val (.int (1 : Int32)), .val (.ref q), .val (.int (1 : Int32)), .val (.int (1 : Int32)), .val (.int (1 : Int32)), .val (.int c0)] (hb hby d12_38) rfl (1 : Int32) rfl rfl rfl ?_
    refine G.goto H2 hx 3 (hb hby d12_41) (by decide) rfl ?_
    refine G.iload H2 hx 5 (hb hby d12_3) rfl rfl ?_
    refine G.iload H2 hx 7 (hb hby d12_5) rfl rfl ?_
    refine G.icmpY H2 hx 44 (hb hby d12_7) (flt (by decide)).2.1 (by decide) rfl ?_
    refine G.iload H2 hx 46 (hb hby d12_44) rfl rfl ?_
    exact Wk.retI W2 hx hret hlk (hb hby d12_46) (by decide) (by decide) (by unfold QUCm1; simp only [if_neg c20_1])
def QUNl1 (Z : State)  (h0 : Heap) : Option Value → Heap → Prop := fun v h => v = some (.int 2) ∧ h = h0
set_option maxRecDepth 65536 in
set_option maxHeartbeats 40000000 in
theorem rmUNl1 (l : Launch) (Z : State) (a0 : Array Value) (hw : ∀ d ∈ tables_1, d.before a0 Z = true)  (h0 : Heap) (O : Ext Z.heap h0) :
    CN [] l Z (⟨"java/lang/StringUTF16", "newBytesLength", "(I)I"⟩ : MethodName) jdk_52_method_3_code 1 (Option.some Jvm.ClassFile.FieldType.int) ({ frames := 0, cells := 0, slots := 0, locals := 0 } : Room) #[(.int (1 : Int32))] h0 [] (QUNl1 Z  h0) := by
  refine CN.of_walk (plainFor_of_name pn2) O (fun _ q => nomatch q) ?_
  intro p e s m below meth c T0 W0 hx hby hml hoZ hnm hret hlk
  have H0 := W0.here; have hz0 := W0.zsize
  refine Goes.cast (ef6 m (1 : Int32)) ?_
  refine G.iloadN H0 hx 1 (hb hby d21_0) rfl rfl ?_
  refine G.ifY H0 hx 12 (hb hby d21_1) (znl (by decide)).2 (by decide) rfl ?_
  refine G.iloadN H0 hx 13 (hb hby d21_12) rfl rfl ?_
  refine Wk.ldcI W0 hx hoZ (wd hw 108 rfl) 15 (hb hby d21_13) rfl ?_
  refine G.icmpY H0 hx 55 (hb hby d21_15) (tlt (by decide)).1 (by decide) rfl ?_
  refine G.iloadN H0 hx 56 (hb hby d21_55) rfl rfl ?_
  refine G.iconst H0 hx 57 (1 : Int32) (hb hby d21_56) rfl rfl ?_
  refine G.ishlF H0 hx 58 (2 : Int32) (hb hby d21_57) (by decide) rfl ?_
  exact Wk.retI W0 hx hret hlk (hb hby d21_58) (by decide) (by decide) ⟨rfl, rfl⟩
def QUNf1 (Z : State)  (h0 : Heap) : Option Value → Heap → Prop := fun v h => ∃ (b : Addr) (k : ClassId), v = some (.ref b) ∧ h0.size ≤ b ∧ Arv Z h b k .byte 2 [(.int (0 : Int32)), (.int (0 : Int32))] (.int 0)
set_option maxRecDepth 65536 in
set_option maxHeartbeats 40000000 in
theorem rmUNf1 (l : Launch) (Z : State) (a0 : Array Value) (hw : ∀ d ∈ tables_1, d.before a0 Z = true)  (h0 : Heap) (O : Ext Z.heap h0) :
    CN [] l Z (⟨"java/lang/StringUTF16", "newBytesFor", "(I)[B"⟩ : MethodName) jdk_52_method_2_code 1 (Option.some (Jvm.ClassFile.FieldType.array Jvm.ClassFile.FieldType.byte)) ({ frames := 1, cells := 1, slots := 2, locals := 14 } : Room) #[(.int (1 : Int32))] h0 [] (QUNf1 Z  h0) := by
  refine CN.of_walk (plainFor_of_name pn2) O (fun _ q => nomatch q) ?_
  intro p e s m below meth c T0 W0 hx hby hml hoZ hnm hret hlk
  have H0 := W0.here; have hz0 := W0.zsize
  refine Goes.cast (ef6 m (1 : Int32)) ?_
  refine G.iloadN H0 hx 1 (hb hby d20_0) rfl rfl ?_
  refine Wk.callS W0 hx hoZ (y := (⟨"java/lang/StringUTF16", "newBytesLength", "(I)I"⟩ : MethodName)) (wd hw 105 rfl) (wd hw 106 rfl) (wd hw 69 rfl) (wd hw 107 rfl) (by decide) (Wd := 0) (CN.back (rmUNl1 l Z a0 hw  h0 W0.old ) W0.warm (wd hw 107 rfl) (wd hw 69 rfl) (by decide) (by decide)) (by rw [hml]; rfl) [(.int (1 : Int32))] [] (lenOf pd1 rfl) rfl rfl (Nat.le_of_eq rfl) 4 (hb hby d20_1) rfl (by decide) (by decide) (fun _ q => nomatch q) ?_
  intro v1 T1 h1 W1 K1 Ch1 Q1
  have H1 := W1.here; have z1 := K1.1
  obtain ⟨rfl, eh1⟩ := Q1
  show Goes p e below (PostN s Z h0 [] (QUNf1 Z  h0) ({ frames := 1, cells := 1, slots := 2, locals := 14 } : Room).cells ({ frames := 1, cells := 1, slots := 2, locals := 14 } : Room).slots) (T1.setTop (mkF m 4 #[.val (.int (1 : Int32))] [(.int (2 : Int32))]))
  refine Wk.newP W1 hx (wd hw 15 rfl) 6 (hb hby d20_4) (by decide) 2 (by decide) rfl (by decide) (by decide) (by decide) ?_
  intro T2 h2 a2 k2 W2 E2 g2 V2 S2
  have H2 := W2.here; have z2 := E2.1; have gu2 := Nat.le_of_eq g2; have gt2 := Nat.le_of_eq g2.symm; have l2 := ltN V2.lt
  have V2 : Arv Z h2 a2 k2 .byte (2 : Int32) [(.int (0 : Int32)), (.int (0 : Int32))] (.int (0 : Int32)) := V2
  exact Wk.retA W2 hx (t := (.array .byte)) rfl rfl hret hlk (hb hby d20_6) (by decide) (by decide) ⟨_, _, rfl, by omega, V2⟩
def QUTb1 (Z : State) (pz : Addr) (kp : ClassId) (c0 : Int32) (h0 : Heap) : Option Value → Heap → Prop := fun v h => ∃ (b : Addr) (k : ClassId), v = some (.ref b) ∧ h0.size ≤ b ∧ Arv Z h b k .byte 2 [(.int (OwnKit.i2b c0)), (.int (OwnKit.i2b (c0 >>> ((8 : Int32) &&& 31))))] (.int 0)
set_option maxRecDepth 65536 in
set_option maxHeartbeats 40000000 in
theorem rmUTb1 (l : Launch) (Z : State) (a0 : Array Value) (hw : ∀ d ∈ tables_1, d.before a0 Z = true) (pz : Addr) (kp : ClassId) (c0 : Int32) (h0 : Heap) (O : Ext Z.heap h0) (hAD : Sta Z Z.heap "java/lang/StringUTF16" "$assertionsDisabled" "Z" (.int 1)) (hHI : Sta Z Z.heap "java/lang/StringUTF16" "HI_BYTE_SHIFT" "I" (.int 0)) (hLO : Sta Z Z.heap "java/lang/StringUTF16" "LO_BYTE_SHIFT" "I" (.int 8)) (Vp : Arv Z h0 pz kp .char 1 [(.int c0)] (.int 0)) :
    CN [] l Z (⟨"java/lang/StringUTF16", "toBytes", "([CII)[B"⟩ : MethodName) jdk_52_method_14_code 5 (Option.some (Jvm.ClassFile.FieldType.array Jvm.ClassFile.FieldType.byte)) ({ frames := 2, cells := 1, slots := 2, locals := 40 } : Room) #[(.ref pz), (.int (0 : Int32)), (.int (1 : Int32))] h0 [] (QUTb1 Z pz kp c0 h0) := by
  refine CN.of_walk (plainFor_of_name pn2) O (fun _ q => nomatch q) ?_
  intro p e s m below meth c T0 W0 hx hby hml hoZ hnm hret hlk
  have H0 := W0.here; have hz0 := W0.zsize
  refine Goes.cast (ef7 m pz (0 : Int32) (1 : Int32)) ?_
  have lp := ltN Vp.lt
  refine G.iloadN H0 hx 1 (hb hby d19_0) rfl rfl ?_
  refine Wk.callS W0 hx hoZ (y := (⟨"java/lang/StringUTF16", "newBytesFor", "(I)[B"⟩ : MethodName)) (wd hw 102 rfl) (wd hw 103 rfl) (wd hw 69 rfl) (wd hw 104 rfl) (by decide) (Wd := 0) (CN.back (rmUNf1 l Z a0 hw  h0 W0.old ) W0.warm (wd hw 104 rfl) (wd hw 69 rfl) (by decide) (by decide)) (by rw [hml]; rfl) [(.int (1 : Int32))] [] (lenOf pd2 rfl) rfl rfl (Nat.le_of_eq rfl) 4 (hb hby d19_1) rfl (by decide) (by decide) (fun _ q => nomatch q) ?_
  intro v1 T1 h1 W1 K1 Ch1 Q1
  have H1 := W1.here; have z1 := K1.1
  obtain ⟨b1, k1, rfl, g1, V1⟩ := Q1; have l1 := ltN V1.lt
  show Goes p e below (PostN s Z h0 [] (QUTb1 Z pz kp c0 h0) ({ frames := 2, cells := 1, slots := 2, locals := 40 } : Room).cells ({ frames := 2, cells := 1, slots := 2, locals := 40 } : Room).slots) (T1.setTop (mkF m 4 #[.val (.ref pz), .val (.int (0 : Int32)), .val (.int (1 : Int32)), .unset, .unset] [(.ref b1)]))
  refine G.astoreN H1 hx 5 #[.val (.ref pz), .val (.int (0 : Int32)), .val (.int (1 : Int32)), .val (.ref b1), .unset] (hb hby d19_4) rfl rfl rfl ?_
  refine G.iconst H1 hx 6 (0 : Int32) (hb hby d19_5) rfl rfl ?_
  refine G.istoreX H1 hx 8 #[.val (.ref pz), .val (.int (0 : Int32)), .val (.int (1 : Int32)), .val (.ref b1), .val (.int (0 : Int32))] (hb hby d19_6) rfl rfl ?_
  refine G.iload H1 hx 10 (hb hby d19_8) rfl rfl ?_
  refine G.iloadN H1 hx 11 (hb hby d19_10) rfl rfl ?_
  refine G.icmpN H1 hx 14 (hb hby d19_11) (tlt (by decide)).2.1 rfl ?_
  refine G.aloadN H1 hx 15 (hb hby d19_14) rfl rfl rfl ?_
  refine G.iload H1 hx 17 (hb hby d19_15) rfl rfl ?_
  refine G.aloadN H1 hx 18 (hb hby d19_17) rfl rfl rfl ?_
  refine G.iloadN H1 hx 19 (hb hby d19_18) rfl rfl ?_
  refine Wk.caload W1 hx (Vp.keep K1 nin0) ⟨by decide, by decide⟩ (.int c0) rfl 20 (hb hby d19_19) rfl ?_
  refine Wk.callS W1 hx hoZ (y := (⟨"java/lang/StringUTF16", "putChar", "([BII)V"⟩ : MethodName)) (wd hw 109 rfl) (wd hw 110 rfl) (wd hw 69 rfl) (wd hw 111 rfl) (by decide) (Wd := 0) (CN.back (rmUPc1_0 l Z a0 hw b1 k1 c0 (0 : Int32) (0 : Int32) h1 W1.old hAD hHI hLO (by omega) V1) W1.warm (wd hw 111 rfl) (wd hw 69 rfl) (by decide) (by decide)) (by rw [hml]; rfl) [(.ref b1), (.int (0 : Int32)), (.int c0)] [] (lenOf pd3 rfl) rfl rfl (Nat.le_of_eq rfl) 23 (hb hby d19_20) rfl (by decide) (by decide) (hws1 (Or.inr (by omega)) safe0) ?_
  intro v2 T2 h2 W2 K2 Ch2 Q2
  have H2 := W2.here; have z2 := K2.1
  obtain ⟨rfl, V2⟩ := Q2
  show Goes p e below (PostN s Z h0 [] (QUTb1 Z pz kp c0 h0) ({ frames := 2, cells := 1, slots := 2, locals := 40 } : Room).cells ({ frames := 2, cells := 1, slots := 2, locals := 40 } : Room).slots) (T2.setTop (mkF m 23 #[.val (.ref pz), .val (.int (0 : Int32)), .val (.int (1 : Int32)), .val (.ref b1), .val (.int (0 : Int32))] []))
  refine G.iincX H2 hx 26 #[.val (.ref pz), .val (.int (1 : Int32)), .val (.int (1 : Int32)), .val (.ref b1), .val (.int (0 : Int32))] (hb hby d19_23) rfl (1 : Int32) rfl rfl rfl ?_
  refine G.iincX H2 hx 29 #[.val (.ref pz), .val (.int (1 : Int32)), .val (.int (1 : Int32)), .val (.ref b1), .val (.int (1 : Int32))] (hb hby d19_26) rfl (1 : Int32) rfl rfl rfl ?_
  refine G.goto H2 hx 8 (hb hby d19_29) (by decide) rfl ?_
  refine G.iload H2 hx 10 (hb hby d19_8) rfl rfl ?_
  refine G.iloadN H2 hx 11 (hb hby d19_10) rfl rfl ?_
  refine G.icmpY H2 hx 32 (hb hby d19_11) (flt (by decide)).2.1 (by decide) rfl ?_
  refine G.aloadN H2 hx 33 (hb hby d19_32) rfl rfl rfl ?_
  exact Wk.retA W2 hx (t := (.array .byte)) rfl rfl hret hlk (hb hby d19_33) (by decide) (by decide) ⟨_, _, rfl, by omega, V2⟩
def QUC3_1 (Z : State) (pz : Addr) (kp : ClassId) (c0 : Int32) (h0 : Heap) : Option Value → Heap → Prop := fun v h => ∃ (b : Addr) (k : ClassId), v = some (.ref b) ∧ h0.size ≤ b ∧ Arv Z h b k .byte 2 [(.int (OwnKit.i2b c0)), (.int (OwnKit.i2b (c0 >>> ((8 : Int32) &&& 31))))] (.int 0)
set_option maxRecDepth 65536 in
set_option maxHeartbeats 40000000 in
theorem rmUC3_1 (l : Launch) (Z : State) (a0 : Array Value) (hw : ∀ d ∈ tables_1, d.before a0 Z = true) (pz : Addr) (kp : ClassId) (c0 : Int32) (h0 : Heap) (O : Ext Z.heap h0) (hAD : Sta Z Z.heap "java/lang/StringUTF16" "$assertionsDisabled" "Z" (.int 1)) (hHI : Sta Z Z.heap "java/lang/StringUTF16" "HI_BYTE_SHIFT" "I" (.int 0)) (hLO : Sta Z Z.heap "java/lang/StringUTF16" "LO_BYTE_SHIFT" "I" (.int 8)) (w0 : C16 c0) (hall : ¬ (¬ (255 : Int32) < c0)) (Vp : Arv Z h0 pz kp .char 1 [(.int c0)] (.int 0)) :
    CN [] l Z (⟨"java/lang/StringUTF16", "compress", "([CII)[B"⟩ : MethodName) jdk_52_method_16_code 6 (Option.some (Jvm.ClassFile.FieldType.array Jvm.ClassFile.FieldType.byte)) ({ frames := 3, cells := 2, slots := 3, locals := 70 } : Room) #[(.ref pz), (.int (0 : Int32)), (.int (1 : Int32))] h0 [] (QUC3_1 Z pz kp c0 h0) := by
  refine CN.of_walk (plainFor_of_name pn2) O (fun _ q => nomatch q) ?_
  intro p e s m below meth c T0 W0 hx hby hml hoZ hnm hret hlk
  have H0 := W0.here; have hz0 := W0.zsize
  refine Goes.cast (ef8 m pz (0 : Int32) (1 : Int32)) ?_
  have lp := ltN Vp.lt
  refine G.iloadN H0 hx 1 (hb hby d11_0) rfl rfl ?_
  refine Wk.newP W0 hx (wd hw 15 rfl) 3 (hb hby d11_1) (by decide) 1 (by decide) rfl (by decide) (by decide) (by decide) ?_
  intro T1 h1 a1 k1 W1 E1 g1 V1 S1
  have H1 := W1.here; have z1 := E1.1; have gu1 := Nat.le_of_eq g1; have gt1 := Nat.le_of_eq g1.symm; have l1 := ltN V1.lt
  have V1 : Arv Z h1 a1 k1 .byte (1 : Int32) [(.int (0 : Int32))] (.int (0 : Int32)) := V1
  refine G.astoreN H1 hx 4 #[.val (.ref pz), .val (.int (0 : Int32)), .val (.int (1 : Int32)), .val (.ref a1), .unset, .unset] (hb hby d11_3) rfl rfl rfl ?_
  refine G.aloadN H1 hx 5 (hb hby d11_4) rfl rfl rfl ?_
  refine G.iloadN H1 hx 6 (hb hby d11_5) rfl rfl ?_
  refine G.aloadN H1 hx 7 (hb hby d11_6) rfl rfl rfl ?_
  refine G.iconst H1 hx 8 (0 : Int32) (hb hby d11_7) rfl rfl ?_
  refine G.iloadN H1 hx 9 (hb hby d11_8) rfl rfl ?_
  refine Wk.callS W1 hx hoZ (y := (⟨"java/lang/StringUTF16", "compress", "([CI[BII)I"⟩ : MethodName)) (wd hw 71 rfl) (wd hw 72 rfl) (wd hw 69 rfl) (wd hw 73 rfl) (by decide) (Wd := 0) (CN.back (rmUCm1 l Z a0 hw pz kp c0 a1 k1 h1 W1.old (Vp.ext E1) (by omega) V1 (neA (by omega))) W1.warm (wd hw 73 rfl) (wd hw 69 rfl) (by decide) (by decide)) (by rw [hml]; rfl) [(.ref pz), (.int (0 : Int32)), (.ref a1), (.int (0 : Int32)), (.int (1 : Int32))] [] (lenOf pd4 rfl) rfl rfl (Nat.le_of_eq rfl) 12 (hb hby d11_9) rfl (by decide) (by decide) (hws1 (Or.inr (by omega)) safe0) ?_
  intro v2 T2 h2 W2 K2 Ch2 Q2
  have H2 := W2.here; have z2 := K2.1
  obtain rfl : _ = _ := Q2
  show Goes p e below (PostN s Z h0 [] (QUC3_1 Z pz kp c0 h0) ({ frames := 3, cells := 2, slots := 3, locals := 70 } : Room).cells ({ frames := 3, cells := 2, slots := 3, locals := 70 } : Room).slots) (T2.setTop (mkF m 12 #[.val (.ref pz), .val (.int (0 : Int32)), .val (.int (1 : Int32)), .val (.ref a1), .unset, .unset] [(.int (if (255 : Int32) < c0 then (0 : Int32) else (1 : Int32)))]))
  by_cases e0 : (255 : Int32) < c0
  ·
    rw [if_pos e0]
    refine G.istoreX H2 hx 14 #[.val (.ref pz), .val (.int (0 : Int32)), .val (.int (1 : Int32)), .val (.ref a1), .val (.int (0 : Int32)), .unset] (hb hby d11_12) rfl rfl ?_
    refine G.iload H2 hx 16 (hb hby d11_14) rfl rfl ?_
    refine G.iloadN H2 hx 17 (hb hby d11_16) rfl rfl ?_
    refine G.icmpN H2 hx 20 (hb hby d11_17) (feq (by decide)).1 rfl ?_
    refine G.aloadN H2 hx 21 (hb hby d11_20) rfl rfl rfl ?_
    refine G.iloadN H2 hx 22 (hb hby d11_21) rfl rfl ?_
    refine G.iloadN H2 hx 23 (hb hby d11_22) rfl rfl ?_
    refine Wk.callS W2 hx hoZ (y := (⟨"java/lang/StringUTF16", "toBytes", "([CII)[B"⟩ : MethodName)) (wd hw 99 rfl) (wd hw 100 rfl) (wd hw 69 rfl) (wd hw 101 rfl) (by decide) (Wd := 0) (CN.back (rmUTb1 l Z a0 hw pz kp c0 h2 W2.old hAD hHI hLO ((Vp.ext E1).keep K2 (ninS (neA (by omega)) nin0))) W2.warm (wd hw 101 rfl) (wd hw 69 rfl) (by decide) (by decide)) (by rw [hml]; rfl) [(.ref pz), (.int (0 : Int32)), (.int (1 : Int32))] [] (lenOf pd5 rfl) rfl rfl (Nat.le_of_eq rfl) 26 (hb hby d11_23) rfl (by decide) (by decide) (fun _ q => nomatch q) ?_
    intro v3 T3 h3 W3 K3 Ch3 Q3
    have H3 := W3.here; have z3 := K3.1
    obtain ⟨b3, k3, rfl, g3, V3⟩ := Q3; have l3 := ltN V3.lt
    show Goes p e below (PostN s Z h0 [] (QUC3_1 Z pz kp c0 h0) ({ frames := 3, cells := 2, slots := 3, locals := 70 } : Room).cells ({ frames := 3, cells := 2, slots := 3, locals := 70 } : Room).slots) (T3.setTop (mkF m 26 #[.val (.ref pz), .val (.int (0 : Int32)), .val (.int (1 : Int32)), .val (.ref a1), .val (.int (0 : Int32)), .unset] [(.ref b3)]))
    refine G.astore H3 hx 28 #[.val (.ref pz), .val (.int (0 : Int32)), .val (.int (1 : Int32)), .val (.ref a1), .val (.int (0 : Int32)), .val (.ref b3)] (hb hby d11_26) rfl rfl rfl ?_
    refine G.aload H3 hx 30 (hb hby d11_28) rfl rfl rfl ?_
    refine G.iload H3 hx 32 (hb hby d11_30) rfl rfl ?_
    refine Wk.callS W3 hx hoZ (y := (⟨"java/lang/StringUTF16", "getChar", "([BI)C"⟩ : MethodName)) (wd hw 115 rfl) (wd hw 116 rfl) (wd hw 69 rfl) (wd hw 117 rfl) (by decide) (Wd := 0) (CN.back (rmUGc1_0 l Z a0 hw b3 k3 (OwnKit.i2b c0) (OwnKit.i2b (c0 >>> ((8 : Int32) &&& 31))) h3 W3.old hAD hHI hLO V3) W3.warm (wd hw 117 rfl) (wd hw 69 rfl) (by decide) (by decide)) (by rw [hml]; rfl) [(.ref b3), (.int (0 : Int32))] [] (lenOf pd6 rfl) rfl rfl (Nat.le_of_eq rfl) 35 (hb hby d11_32) rfl (by decide) (by decide) (fun _ q => nomatch q) ?_
    intro v4 T4 h4 W4 K4 Ch4 Q4
    have H4 := W4.here; have z4 := K4.1
    obtain ⟨rfl, eh4⟩ := Q4
    show Goes p e below (PostN s Z h0 [] (QUC3_1 Z pz kp c0 h0) ({ frames := 3, cells := 2, slots := 3, locals := 70 } : Room).cells ({ frames := 3, cells := 2, slots := 3, locals := 70 } : Room).slots) (T4.setTop (mkF m 35 #[.val (.ref pz), .val (.int (0 : Int32)), .val (.int (1 : Int32)), .val (.ref a1), .val (.int (0 : Int32)), .val (.ref b3)] [(.int (OwnKit.i2c ((((OwnKit.i2b c0) &&& (255 : Int32)) <<< ((0 : Int32) &&& 31)) ||| (((OwnKit.i2b (c0 >>> ((8 : Int32) &&& 31))) &&& (255 : Int32)) <<< ((8 : Int32) &&& 31)))))]))
    rw [pair16 w0]
    show Goes p e below (PostN s Z h0 [] (QUC3_1 Z pz kp c0 h0) ({ frames := 3, cells := 2, slots := 3, locals := 70 } : Room).cells ({ frames := 3, cells := 2, slots := 3, locals := 70 } : Room).slots) (T4.setTop (mkF m 35 #[.val (.ref pz), .val (.int (0 : Int32)), .val (.int (1 : Int32)), .val (.ref a1), .val (.int (0 : Int32)), .val (.ref b3)] [(.int c0)]))
    refine G.sipush H4 hx 38 (255 : Int32) (hb hby d11_35) rfl rfl ?_
    refine G.icmpY H4 hx 54 (hb hby d11_38) (tlt e0).2.2.1 (by decide) rfl ?_
    refine G.aload H4 hx 56 (hb hby d11_54) rfl rfl rfl ?_
    exact Wk.retA W4 hx (t := (.array .byte)) rfl rfl hret hlk (hb hby d11_56) (by decide) (by decide) ⟨_, _, rfl, by omega, (V3.keep K4 nin0)⟩
  ·
    exact absurd e0 hall
def QUCl1 (Z : State) (b : Addr) (kb : ClassId) (u0 : Int32) (u1 : Int32) (h0 : Heap) : Option Value → Heap → Prop := fun v h => v = some (.int 1) ∧ h = h0
set_option maxRecDepth 65536 in
set_option maxHeartbeats 40000000 in
theorem rmUCl1 (l : Launch) (Z : State) (a0 : Array Value) (hw : ∀ d ∈ tables_1, d.before a0 Z = true) (b : Addr) (kb : ClassId) (u0 : Int32) (u1 : Int32) (h0 : Heap) (O : Ext Z.heap h0) (Vb : Arv Z h0 b kb .byte 2 [(.int u0), (.int u1)] (.int 0)) :
    CN [] l Z (⟨"java/lang/StringUTF16", "coderFromArrayLen", "([BI)B"⟩ : MethodName) jdk_52_method_15_code 2 (Option.some Jvm.ClassFile.FieldType.byte) ({ frames := 0, cells := 0, slots := 0, locals := 0 } : Room) #[(.ref b), (.int (1 : Int32))] h0 [] (QUCl1 Z b kb u0 u1 h0) := by
  refine CN.of_walk (plainFor_of_name pn2) O (fun _ q => nomatch q) ?_
  intro p e s m below meth c T0 W0 hx hby hml hoZ hnm hret hlk
  have H0 := W0.here; have hz0 := W0.zsize
  refine Goes.cast (ef4 m b (1 : Int32)) ?_
  refine G.iloadN H0 hx 1 (hb hby d13_0) rfl rfl ?_
  refine G.aloadN H0 hx 2 (hb hby d13_1) rfl rfl rfl ?_
  refine Wk.arraylength W0 hx Vb 3 (hb hby d13_2) rfl ?_
  refine G.isubF H0 hx 4 (-1 : Int32) (hb hby d13_3) (by decide) rfl ?_
  refine G.bipush H0 hx 6 (31 : Int32) (hb hby d13_4) rfl rfl ?_
  refine G.iushrF H0 hx 7 (1 : Int32) (hb hby d13_6) (by decide) rfl ?_
  refine G.i2b H0 hx 8 (hb hby d13_7) rfl ?_
  exact Wk.retN W0 hx (1 : Int32) (t := .byte) (by decide) (by simp) hret hlk (hb hby d13_8) (by decide) (by decide) ⟨rfl, rfl⟩
def QUN4_1 (Z : State) (cz : Int32) (a : Addr) (pz : Addr) (kp : ClassId) (c0 : Int32) (h0 : Heap) : Option Value → Heap → Prop := fun v h => v = none ∧ Exa Z h a "java/lang/String" ∧ Fld Z h a "java/lang/String" "coder" "B" (.int 1) ∧ ∃ (b : Addr) (k : ClassId), Fld Z h a "java/lang/String" "value" "[B" (.ref b) ∧ Arv Z h b k .byte 2 [(.int (OwnKit.i2b c0)), (.int (OwnKit.i2b (c0 >>> ((8 : Int32) &&& 31))))] (.int 0)
set_option maxRecDepth 65536 in
set_option maxHeartbeats 40000000 in
theorem rmUN4_1 (l : Launch) (Z : State) (a0 : Array Value) (hw : ∀ d ∈ tables_1, d.before a0 Z = true) (cz : Int32) (a : Addr) (pz : Addr) (kp : ClassId) (c0 : Int32) (h0 : Heap) (O : Ext Z.heap h0) (hCS : Sta Z Z.heap "java/lang/String" "COMPACT_STRINGS" "Z" (.int cz)) (hcz : ¬ cz = 0) (hAD : Sta Z Z.heap "java/lang/StringUTF16" "$assertionsDisabled" "Z" (.int 1)) (hHI : Sta Z Z.heap "java/lang/StringUTF16" "HI_BYTE_SHIFT" "I" (.int 0)) (hLO : Sta Z Z.heap "java/lang/StringUTF16" "LO_BYTE_SHIFT" "I" (.int 8)) (w0 : C16 c0) (hall : ¬ (¬ (255 : Int32) < c0)) (Vp : Arv Z h0 pz kp .char 1 [(.int c0)] (.int 0)) (gz_a : Z.heap.size ≤ a) (Ea : Exa Z h0 a "java/lang/String") (Fv : Fld Z h0 a "java/lang/String" "value" "[B" .null) (Fc : Fld Z h0 a "java/lang/String" "coder" "B" (.int 0)) :
    CN [] l Z (⟨"java/lang/String", "<init>", "([CIILjava/lang/Void;)V"⟩ : MethodName) jdk_42_method_149_code 6 (Option.none : Option Jvm.ClassFile.FieldType) ({ frames := 4, cells := 2, slots := 3, locals := 100 } : Room) #[(.ref a), (.ref pz), (.int (0 : Int32)), (.int (1 : Int32)), .null] h0 [a] (QUN4_1 Z cz a pz kp c0 h0) := by
  refine CN.of_walk (plainFor_of_name pn0) O (ala gz_a ala0) ?_
  intro p e s m below meth c T0 W0 hx hby hml hoZ hnm hret hlk
  have H0 := W0.here; have hz0 := W0.zsize
  refine Goes.cast (ef0 m a pz (0 : Int32) (1 : Int32)) ?_
  have lp := ltN Vp.lt
  have la := ltN Ea.lt
  refine G.aloadN H0 hx 1 (hb hby d2_0) rfl rfl rfl ?_
  refine Wk.initO W0 hx hoZ (wd hw 11 rfl) (wd hw 12 rfl) (wd hw 13 rfl) (by rw [hml]; rfl) 4 (hb hby d2_1) rfl (by decide) 0 (Nat.le_of_eq rfl) (by decide) ?_
  intro T1 W1; have H1 := W1.here
  refine G.iloadN H1 hx 5 (hb hby d2_4) rfl rfl ?_
  refine G.ifY H1 hx 27 (hb hby d2_5) (zne (by decide)).2 (by decide) rfl ?_
  refine Wk.getS W1 hx hoZ (wd hw 65 rfl) Via.refl (hCS.ext W1.old) 30 (hb hby d2_27) rfl ?_
  intro T2 W2; have H2 := W2.here
  refine G.ifN H2 hx 33 (hb hby d2_30) (zne hcz).1 rfl ?_
  refine G.aloadN H2 hx 34 (hb hby d2_33) rfl rfl rfl ?_
  refine G.iloadN H2 hx 35 (hb hby d2_34) rfl rfl ?_
  refine G.iloadN H2 hx 36 (hb hby d2_35) rfl rfl ?_
  refine Wk.callS W2 hx hoZ (y := (⟨"java/lang/StringUTF16", "compress", "([CII)[B"⟩ : MethodName)) (wd hw 67 rfl) (wd hw 68 rfl) (wd hw 69 rfl) (wd hw 70 rfl) (by decide) (Wd := 0) (CN.back (rmUC3_1 l Z a0 hw pz kp c0 h0 W2.old hAD hHI hLO w0 hall Vp) W2.warm (wd hw 70 rfl) (wd hw 69 rfl) (by decide) (by decide)) (by rw [hml]; rfl) [(.ref pz), (.int (0 : Int32)), (.int (1 : Int32))] [] (lenOf pd5 rfl) rfl rfl (Nat.le_of_eq rfl) 39 (hb hby d2_36) rfl (by decide) (by decide) (fun _ q => nomatch q) ?_
  intro v3 T3 h3 W3 K3 Ch3 Q3
  have H3 := W3.here; have z3 := K3.1
  obtain ⟨b3, k3, rfl, g3, V3⟩ := Q3; have l3 := ltN V3.lt
  show Goes p e below (PostN s Z h0 [a] (QUN4_1 Z cz a pz kp c0 h0) ({ frames := 4, cells := 2, slots := 3, locals := 100 } : Room).cells ({ frames := 4, cells := 2, slots := 3, locals := 100 } : Room).slots) (T3.setTop (mkF m 39 #[.val (.ref a), .val (.ref pz), .val (.int (0 : Int32)), .val (.int (1 : Int32)), .val .null, .unset] [(.ref b3)]))
  refine G.astore H3 hx 41 #[.val (.ref a), .val (.ref pz), .val (.int (0 : Int32)), .val (.int (1 : Int32)), .val .null, .val (.ref b3)] (hb hby d2_39) rfl rfl rfl ?_
  refine G.aloadN H3 hx 42 (hb hby d2_41) rfl rfl rfl ?_
  refine G.aload H3 hx 44 (hb hby d2_42) rfl rfl rfl ?_
  refine G.iloadN H3 hx 45 (hb hby d2_44) rfl rfl ?_
  refine Wk.callS W3 hx hoZ (y := (⟨"java/lang/StringUTF16", "coderFromArrayLen", "([BI)B"⟩ : MethodName)) (wd hw 74 rfl) (wd hw 75 rfl) (wd hw 69 rfl) (wd hw 76 rfl) (by decide) (Wd := 1) (CN.back (rmUCl1 l Z a0 hw b3 k3 (OwnKit.i2b c0) (OwnKit.i2b (c0 >>> ((8 : Int32) &&& 31))) h3 W3.old V3) W3.warm (wd hw 76 rfl) (wd hw 69 rfl) (by decide) (by decide)) (by rw [hml]; rfl) [(.ref b3), (.int (1 : Int32))] [(.ref a)] (lenOf pd7 rfl) rfl rfl (Nat.le_of_eq rfl) 48 (hb hby d2_45) rfl (by decide) (by decide) (fun _ q => nomatch q) ?_
  intro v4 T4 h4 W4 K4 Ch4 Q4
  have H4 := W4.here; have z4 := K4.1
  obtain ⟨rfl, eh4⟩ := Q4
  show Goes p e below (PostN s Z h0 [a] (QUN4_1 Z cz a pz kp c0 h0) ({ frames := 4, cells := 2, slots := 3, locals := 100 } : Room).cells ({ frames := 4, cells := 2, slots := 3, locals := 100 } : Room).slots) (T4.setTop (mkF m 48 #[.val (.ref a), .val (.ref pz), .val (.int (0 : Int32)), .val (.int (1 : Int32)), .val .null, .val (.ref b3)] [(.int (1 : Int32)), (.ref a)]))
  refine Wk.putF W4 hx hoZ (wd hw 21 rfl) Via.refl (.int (1 : Int32)) ((Fc.keep K3 nin0).keep K4 nin0) ((Ea.keep K3).keep K4) (Or.inr ⟨(wd hw 17 rfl), rfl, hnm⟩) (wd hw 2 rfl) (ty := .byte) (by decide) rfl rfl (Or.inl (by simp)) safe0 51 (hb hby d2_48) rfl ?_
  intro T5 h5 W5 R5 Ch5; have H5 := W5.here; have z5 := R5.size
  have F5 := (((Fc.keep K3 nin0).keep K4 nin0)).same R5
  refine G.aloadN H5 hx 52 (hb hby d2_51) rfl rfl rfl ?_
  refine G.aload H5 hx 54 (hb hby d2_52) rfl rfl rfl ?_
  refine Wk.putF W5 hx hoZ (wd hw 20 rfl) Via.refl (.ref b3) (((Fv.keep K3 nin0).keep K4 nin0).other R5 (Or.inr (slot_ne (Or.inr (wd hw 16 rfl)) (Or.inr (wd hw 17 rfl)) (by decide) (t := (.array .byte)) (t' := .byte) (by decide) (by decide)))) (((Ea.keep K3).keep K4).wr R5) (Or.inr ⟨(wd hw 16 rfl), rfl, hnm⟩) (wd hw 2 rfl) (ty := (.array .byte)) (by decide) rfl rfl (Or.inl (by simp)) safe0 57 (hb hby d2_54) rfl ?_
  intro T6 h6 W6 R6 Ch6; have H6 := W6.here; have z6 := R6.size
  have F6 := ((((Fv.keep K3 nin0).keep K4 nin0).other R5 (Or.inr (slot_ne (Or.inr (wd hw 16 rfl)) (Or.inr (wd hw 17 rfl)) (by decide) (t := (.array .byte)) (t' := .byte) (by decide) (by decide))))).same R6
  exact Wk.retV W6 hx hret hlk (hb hby d2_57) (by decide) (by decide) ⟨rfl, ((((Ea.keep K3).keep K4).wr R5).wr R6), (F5.other R6 (Or.inr (slot_ne (Or.inr (wd hw 17 rfl)) (Or.inr (wd hw 16 rfl)) (by decide) (t := .byte) (t' := (.array .byte)) (by decide) (by decide)))), _, _, F6, (((V3.keep K4 nin0).other R5 (neA (by omega))).other R6 (neA (by omega)))⟩
def QUN1_1 (Z : State) (cz : Int32) (a : Addr) (pz : Addr) (kp : ClassId) (c0 : Int32) (h0 : Heap) : Option Value → Heap → Prop := fun v h => v = none ∧ Exa Z h a "java/lang/String" ∧ Fld Z h a "java/lang/String" "coder" "B" (.int 1) ∧ ∃ (b : Addr) (k : ClassId), Fld Z h a "java/lang/String" "value" "[B" (.ref b) ∧ Arv Z h b k .byte 2 [(.int (OwnKit.i2b c0)), (.int (OwnKit.i2b (c0 >>> ((8 : Int32) &&& 31))))] (.int 0)
set_option maxRecDepth 65536 in
set_option maxHeartbeats 40000000 in
theorem rmUN1_1 (l : Launch) (Z : State) (a0 : Array Value) (hw : ∀ d ∈ tables_1, d.before a0 Z = true) (cz : Int32) (a : Addr) (pz : Addr) (kp : ClassId) (c0 : Int32) (h0 : Heap) (O : Ext Z.heap h0) (hCS : Sta Z Z.heap "java/lang/String" "COMPACT_STRINGS" "Z" (.int cz)) (hcz : ¬ cz = 0) (hAD : Sta Z Z.heap "java/lang/StringUTF16" "$assertionsDisabled" "Z" (.int 1)) (hHI : Sta Z Z.heap "java/lang/StringUTF16" "HI_BYTE_SHIFT" "I" (.int 0)) (hLO : Sta Z Z.heap "java/lang/StringUTF16" "LO_BYTE_SHIFT" "I" (.int 8)) (w0 : C16 c0) (hall : ¬ (¬ (255 : Int32) < c0)) (Vp : Arv Z h0 pz kp .char 1 [(.int c0)] (.int 0)) (gz_a : Z.heap.size ≤ a) (Ea : Exa Z h0 a "java/lang/String") (Fv : Fld Z h0 a "java/lang/String" "value" "[B" .null) (Fc : Fld Z h0 a "java/lang/String" "coder" "B" (.int 0)) :
    CN [] l Z (⟨"java/lang/String", "<init>", "([C)V"⟩ : MethodName) jdk_42_method_3_code 2 (Option.none : Option Jvm.ClassFile.FieldType) ({ frames := 5, cells := 2, slots := 3, locals := 125 } : Room) #[(.ref a), (.ref pz)] h0 [a] (QUN1_1 Z cz a pz kp c0 h0) := by
  refine CN.of_walk (plainFor_of_name pn0) O (ala gz_a ala0) ?_
  intro p e s m below meth c T0 W0 hx hby hml hoZ hnm hret hlk
  have H0 := W0.here; have hz0 := W0.zsize
  refine Goes.cast (ef1 m a pz) ?_
  have lp := ltN Vp.lt
  have la := ltN Ea.lt
  refine G.aloadN H0 hx 1 (hb hby d1_0) rfl rfl rfl ?_
  refine G.aloadN H0 hx 2 (hb hby d1_1) rfl rfl rfl ?_
  refine G.iconst H0 hx 3 (0 : Int32) (hb hby d1_2) rfl rfl ?_
  refine G.aloadN H0 hx 4 (hb hby d1_3) rfl rfl rfl ?_
  refine Wk.arraylength W0 hx Vp 5 (hb hby d1_4) rfl ?_
  refine G.aconstNull H0 hx 6 (hb hby d1_5) rfl ?_
  refine Wk.special W0 hx hoZ (y := (⟨"java/lang/String", "<init>", "([CIILjava/lang/Void;)V"⟩ : MethodName)) rfl (wd hw 7 rfl) (wd hw 8 rfl) (wd hw 10 rfl) (by decide) (Wd := 0) (CN.back (rmUN4_1 l Z a0 hw cz a pz kp c0 h0 W0.old hCS hcz hAD hHI hLO w0 hall Vp (by omega) Ea Fv Fc) W0.warm (wd hw 10 rfl) (wd hw 3 rfl) (by decide) (by decide)) a (by rw [hml]; rfl) [(.ref pz), (.int (0 : Int32)), (.int (1 : Int32)), .null] [] (lenOf pd0 rfl) rfl rfl (Nat.le_of_eq rfl) 9 (hb hby d1_6) rfl (by decide) (by decide) (hws1 (Or.inl (by simp)) safe0) ?_
  intro v1 T1 h1 W1 K1 Ch1 Q1
  have H1 := W1.here; have z1 := K1.1
  obtain ⟨rfl, X1, F1c, b1, k1, F1v, V1⟩ := Q1; have l1 := ltN V1.lt
  show Goes p e below (PostN s Z h0 [a] (QUN1_1 Z cz a pz kp c0 h0) ({ frames := 5, cells := 2, slots := 3, locals := 125 } : Room).cells ({ frames := 5, cells := 2, slots := 3, locals := 125 } : Room).slots) (T1.setTop (mkF m 9 #[.val (.ref a), .val (.ref pz)] []))
  exact Wk.retV W1 hx hret hlk (hb hby d1_9) (by decide) (by decide) ⟨rfl, X1, F1c, _, _, F1v, V1⟩
def QLatW (Z : State) (cz : Int32) (a : Addr) (h0 : Heap) : Option Value → Heap → Prop := fun v h => v = some (.int 0) ∧ h = h0
set_option maxRecDepth 65536 in
set_option maxHeartbeats 40000000 in
theorem rmLatW (l : Launch) (Z : State) (a0 : Array Value) (hw : ∀ d ∈ tables_1, d.before a0 Z = true) (cz : Int32) (a : Addr) (h0 : Heap) (O : Ext Z.heap h0) (hCS : Sta Z Z.heap "java/lang/String" "COMPACT_STRINGS" "Z" (.int cz)) (hcz : ¬ cz = 0) (Ea : Exa Z h0 a "java/lang/String") (Fc : Fld Z h0 a "java/lang/String" "coder" "B" (.int 1)) :
    CN [] l Z (⟨"java/lang/String", "isLatin1", "()Z"⟩ : MethodName) jdk_42_method_154_code 1 (Option.some Jvm.ClassFile.FieldType.boolean) ({ frames := 0, cells := 0, slots := 0, locals := 0 } : Room) #[(.ref a)] h0 [] (QLatW Z cz a h0) := by
  refine CN.of_walk (plainFor_of_name pn0) O (fun _ q => nomatch q) ?_
  intro p e s m below meth c T0 W0 hx hby hml hoZ hnm hret hlk
  have H0 := W0.here; have hz0 := W0.zsize
  refine Goes.cast (ef2 m a) ?_
  refine Wk.getS W0 hx hoZ (wd hw 65 rfl) Via.refl (hCS.ext W0.old) 3 (hb hby d15_0) rfl ?_
  intro T1 W1; have H1 := W1.here
  refine G.ifN H1 hx 6 (hb hby d15_3) (zne hcz).1 rfl ?_
  refine G.aloadN H1 hx 7 (hb hby d15_6) rfl rfl rfl ?_
  refine Wk.getF W1 hx hoZ (host := "") (Or.inl (wd hw 21 rfl)) Via.refl Fc 10 (hb hby d15_7) rfl ?_
  intro T2 W2; have H2 := W2.here
  refine G.ifY H2 hx 17 (hb hby d15_10) (zne (by decide)).2 (by decide) rfl ?_
  refine G.iconst H2 hx 18 (0 : Int32) (hb hby d15_17) rfl rfl ?_
  exact Wk.retN W2 hx (0 : Int32) (t := .boolean) rfl (by simp) hret hlk (hb hby d15_18) (by decide) (by decide) ⟨rfl, rfl⟩
def QCodW (Z : State) (cz : Int32) (a : Addr) (h0 : Heap) : Option Value → Heap → Prop := fun v h => v = some (.int 1) ∧ h = h0
set_option maxRecDepth 65536 in
set_option maxHeartbeats 40000000 in
theorem rmCodW (l : Launch) (Z : State) (a0 : Array Value) (hw : ∀ d ∈ tables_1, d.before a0 Z = true) (cz : Int32) (a : Addr) (h0 : Heap) (O : Ext Z.heap h0) (hCS : Sta Z Z.heap "java/lang/String" "COMPACT_STRINGS" "Z" (.int cz)) (hcz : ¬ cz = 0) (Ea : Exa Z h0 a "java/lang/String") (Fc : Fld Z h0 a "java/lang/String" "coder" "B" (.int 1)) :
    CN [] l Z (⟨"java/lang/String", "coder", "()B"⟩ : MethodName) jdk_42_method_152_code 1 (Option.some Jvm.ClassFile.FieldType.byte) ({ frames := 0, cells := 0, slots := 0, locals := 0 } : Room) #[(.ref a)] h0 [] (QCodW Z cz a h0) := by
  refine CN.of_walk (plainFor_of_name pn0) O (fun _ q => nomatch q) ?_
  intro p e s m below meth c T0 W0 hx hby hml hoZ hnm hret hlk
  have H0 := W0.here; have hz0 := W0.zsize
  refine Goes.cast (ef2 m a) ?_
  refine Wk.getS W0 hx hoZ (wd hw 65 rfl) Via.refl (hCS.ext W0.old) 3 (hb hby d10_0) rfl ?_
  intro T1 W1; have H1 := W1.here
  refine G.ifN H1 hx 6 (hb hby d10_3) (zne hcz).1 rfl ?_
  refine G.aloadN H1 hx 7 (hb hby d10_6) rfl rfl rfl ?_
  refine Wk.getF W1 hx hoZ (host := "") (Or.inl (wd hw 21 rfl)) Via.refl Fc 10 (hb hby d10_7) rfl ?_
  intro T2 W2; have H2 := W2.here
  refine G.goto H2 hx 14 (hb hby d10_10) (by decide) rfl ?_
  exact Wk.retN W2 hx (1 : Int32) (t := .byte) rfl (by simp) hret hlk (hb hby d10_14) (by decide) (by decide) ⟨rfl, rfl⟩
def QPCk (Z : State) (fm : Value) (x : Int32) (n : Int32) (h0 : Heap) : Option Value → Heap → Prop := fun v h => v = some (.int x) ∧ h = h0
set_option maxRecDepth 65536 in
set_option maxHeartbeats 40000000 in
theorem rmPCk (l : Launch) (Z : State) (a0 : Array Value) (hw : ∀ d ∈ tables_1, d.before a0 Z = true) (fm : Value) (x : Int32) (n : Int32) (h0 : Heap) (O : Ext Z.heap h0) (hfm : fm.isRef = true) (hp1 : ¬ x < 0) (hp2 : x < n) :
    CN [] l Z (⟨"jdk/internal/util/Preconditions", "checkIndex", "(IILjava/util/function/BiFunction;)I"⟩ : MethodName) jdk_41_method_11_code 3 (Option.some Jvm.ClassFile.FieldType.int) ({ frames := 0, cells := 0, slots := 0, locals := 0 } : Room) #[(.int x), (.int n), fm] h0 [] (QPCk Z fm x n h0) := by
  refine CN.of_walk (plainFor_of_name pn3) O (fun _ q => nomatch q) ?_
  intro p e s m below meth c T0 W0 hx hby hml hoZ hnm hret hlk
  have H0 := W0.here; have hz0 := W0.zsize
  refine Goes.cast (ef9 m x n fm (cat_ref hfm)) ?_
  refine G.iloadN H0 hx 1 (hb hby d18_0) rfl rfl ?_
  refine G.ifN H0 hx 4 (hb hby d18_1) (znl hp1).1 rfl ?_
  refine G.iloadN H0 hx 5 (hb hby d18_4) rfl rfl ?_
  refine G.iloadN H0 hx 6 (hb hby d18_5) rfl rfl ?_
  refine G.icmpY H0 hx 16 (hb hby d18_6) (tlt hp2).1 (by decide) rfl ?_
  refine G.iloadN H0 hx 17 (hb hby d18_16) rfl rfl ?_
  exact Wk.retI W0 hx hret hlk (hb hby d18_17) (by decide) (by decide) ⟨rfl, rfl⟩
def QSCk (Z : State) (fm : Value) (x : Int32) (n : Int32) (h0 : Heap) : Option Value → Heap → Prop := fun v h => v = none ∧ h = h0
set_option maxRecDepth 65536 in
set_option maxHeartbeats 40000000 in
theorem rmSCk (l : Launch) (Z : State) (a0 : Array Value) (hw : ∀ d ∈ tables_1, d.before a0 Z = true) (fm : Value) (x : Int32) (n : Int32) (h0 : Heap) (O : Ext Z.heap h0) (hFM : Sta Z Z.heap "jdk/internal/util/Preconditions" "SIOOBE_FORMATTER" "Ljava/util/function/BiFunction;" fm) (hfm : fm.isRef = true) (hp1 : ¬ x < 0) (hp2 : x < n) :
    CN [] l Z (⟨"java/lang/String", "checkIndex", "(II)V"⟩ : MethodName) jdk_42_method_155_code 2 (Option.none : Option Jvm.ClassFile.FieldType) ({ frames := 1, cells := 0, slots := 0, locals := 20 } : Room) #[(.int x), (.int n)] h0 [] (QSCk Z fm x n h0) := by
  refine CN.of_walk (plainFor_of_name pn0) O (fun _ q => nomatch q) ?_
  intro p e s m below meth c T0 W0 hx hby hml hoZ hnm hret hlk
  have H0 := W0.here; have hz0 := W0.zsize
  refine Goes.cast (ef10 m x n) ?_
  refine G.iloadN H0 hx 1 (hb hby d17_0) rfl rfl ?_
  refine G.iloadN H0 hx 2 (hb hby d17_1) rfl rfl ?_
  refine Wk.getS W0 hx hoZ (wd hw 94 rfl) Via.refl (hFM.ext W0.old) 5 (hb hby d17_2) rfl ?_
  intro T1 W1; have H1 := W1.here
  refine Wk.callS W1 hx hoZ (y := (⟨"jdk/internal/util/Preconditions", "checkIndex", "(IILjava/util/function/BiFunction;)I"⟩ : MethodName)) (wd hw 96 rfl) (wd hw 97 rfl) (wd hw 95 rfl) (wd hw 98 rfl) (by decide) (Wd := 0) (CN.back (rmPCk l Z a0 hw fm x n h0 W1.old hfm hp1 hp2) W1.warm (wd hw 98 rfl) (wd hw 95 rfl) (by decide) (by decide)) (by rw [hml]; rfl) [(.int x), (.int n), fm] [] (lenOf pd8 rfl) rfl rfl (Nat.le_of_eq rfl) 8 (hb hby d17_5) rfl (by decide) (by decide) (fun _ q => nomatch q) ?_
  intro v2 T2 h2 W2 K2 Ch2 Q2
  have H2 := W2.here; have z2 := K2.1
  obtain ⟨rfl, eh2⟩ := Q2
  show Goes p e below (PostN s Z h0 [] (QSCk Z fm x n h0) ({ frames := 1, cells := 0, slots := 0, locals := 20 } : Room).cells ({ frames := 1, cells := 0, slots := 0, locals := 20 } : Room).slots) (T2.setTop (mkF m 8 #[.val (.int x), .val (.int n)] [(.int x)]))
  refine G.pop H2 hx 9 (hb hby d17_8) rfl rfl ?_
  exact Wk.retV W2 hx hret hlk (hb hby d17_9) (by decide) (by decide) ⟨rfl, (by rw [eh2])⟩
def QUSl1 (Z : State) (cz : Int32) (a : Addr) (b : Addr) (kb : ClassId) (c0 : Int32) (h0 : Heap) : Option Value → Heap → Prop := fun v h => v = some (.int 1) ∧ h = h0
set_option maxRecDepth 65536 in
set_option maxHeartbeats 40000000 in
theorem rmUSl1 (l : Launch) (Z : State) (a0 : Array Value) (hw : ∀ d ∈ tables_1, d.before a0 Z = true) (cz : Int32) (a : Addr) (b : Addr) (kb : ClassId) (c0 : Int32) (h0 : Heap) (O : Ext Z.heap h0) (hCS : Sta Z Z.heap "java/lang/String" "COMPACT_STRINGS" "Z" (.int cz)) (hcz : ¬ cz = 0) (Ea : Exa Z h0 a "java/lang/String") (Fc : Fld Z h0 a "java/lang/String" "coder" "B" (.int 1)) (Fv : Fld Z h0 a "java/lang/String" "value" "[B" (.ref b)) (Vb : Arv Z h0 b kb .byte 2 [(.int (OwnKit.i2b c0)), (.int (OwnKit.i2b (c0 >>> ((8 : Int32) &&& 31))))] (.int 0)) :
    CN [] l Z (⟨"java/lang/String", "length", "()I"⟩ : MethodName) jdk_42_method_54_code 1 (Option.some Jvm.ClassFile.FieldType.int) ({ frames := 1, cells := 0, slots := 0, locals := 14 } : Room) #[(.ref a)] h0 [] (QUSl1 Z cz a b kb c0 h0) := by
  refine CN.of_walk (plainFor_of_name pn0) O (fun _ q => nomatch q) ?_
  intro p e s m below meth c T0 W0 hx hby hml hoZ hnm hret hlk
  have H0 := W0.here; have hz0 := W0.zsize
  refine Goes.cast (ef2 m a) ?_
  refine G.aloadN H0 hx 1 (hb hby d9_0) rfl rfl rfl ?_
  refine Wk.getF W0 hx hoZ (host := "") (Or.inl (wd hw 20 rfl)) Via.refl Fv 4 (hb hby d9_1) rfl ?_
  intro T1 W1; have H1 := W1.here
  refine Wk.arraylength W1 hx Vb 5 (hb hby d9_4) rfl ?_
  refine G.aloadN H1 hx 6 (hb hby d9_5) rfl rfl rfl ?_
  refine Wk.virtual W1 hx hoZ (y := (⟨"java/lang/String", "coder", "()B"⟩ : MethodName)) (z := (⟨"java/lang/String", "coder", "()B"⟩ : MethodName)) (wd hw 60 rfl) (wd hw 61 rfl) (wd hw 63 rfl) (wd hw 62 rfl) (W1.nf (wd hw 63 rfl)) (by decide) (Wd := 1) (CN.back (rmCodW l Z a0 hw cz a h0 W1.old hCS hcz Ea Fc) W1.warm (wd hw 64 rfl) (wd hw 3 rfl) (by decide) (by decide)) Ea (by rw [hml]; rfl) [] [(.int (2 : Int32))] (lenOf pd9 rfl) rfl rfl (Nat.le_of_eq rfl) 9 (hb hby d9_6) rfl (by decide) (by decide) (fun _ q => nomatch q) ?_
  intro v2 T2 h2 W2 K2 Ch2 Q2
  have H2 := W2.here; have z2 := K2.1
  obtain ⟨rfl, eh2⟩ := Q2
  show Goes p e below (PostN s Z h0 [] (QUSl1 Z cz a b kb c0 h0) ({ frames := 1, cells := 0, slots := 0, locals := 14 } : Room).cells ({ frames := 1, cells := 0, slots := 0, locals := 14 } : Room).slots) (T2.setTop (mkF m 9 #[.val (.ref a)] [(.int (1 : Int32)), (.int (2 : Int32))]))
  refine G.ishrF H2 hx 10 (1 : Int32) (hb hby d9_9) (by decide) rfl ?_
  exact Wk.retI W2 hx hret hlk (hb hby d9_10) (by decide) (by decide) ⟨rfl, (by rw [eh2])⟩
def QUCk1_0 (Z : State) (fm : Value) (b : Addr) (kb : ClassId) (c0 : Int32) (h0 : Heap) : Option Value → Heap → Prop := fun v h => v = none ∧ h = h0
set_option maxRecDepth 65536 in
set_option maxHeartbeats 40000000 in
theorem rmUCk1_0 (l : Launch) (Z : State) (a0 : Array Value) (hw : ∀ d ∈ tables_1, d.before a0 Z = true) (fm : Value) (b : Addr) (kb : ClassId) (c0 : Int32) (h0 : Heap) (O : Ext Z.heap h0) (hFM : Sta Z Z.heap "jdk/internal/util/Preconditions" "SIOOBE_FORMATTER" "Ljava/util/function/BiFunction;" fm) (hfm : fm.isRef = true) (Vb : Arv Z h0 b kb .byte 2 [(.int (OwnKit.i2b c0)), (.int (OwnKit.i2b (c0 >>> ((8 : Int32) &&& 31))))] (.int 0)) :
    CN [] l Z (⟨"java/lang/StringUTF16", "checkIndex", "(I[B)V"⟩ : MethodName) jdk_52_method_91_code 2 (Option.none : Option Jvm.ClassFile.FieldType) ({ frames := 2, cells := 0, slots := 0, locals := 40 } : Room) #[(.int (0 : Int32)), (.ref b)] h0 [] (QUCk1_0 Z fm b kb c0 h0) := by
  refine CN.of_walk (plainFor_of_name pn2) O (fun _ q => nomatch q) ?_
  intro p e s m below meth c T0 W0 hx hby hml hoZ hnm hret hlk
  have H0 := W0.here; have hz0 := W0.zsize
  refine Goes.cast (ef11 m (0 : Int32) b) ?_
  refine G.iloadN H0 hx 1 (hb hby d25_0) rfl rfl ?_
  refine G.aloadN H0 hx 2 (hb hby d25_1) rfl rfl rfl ?_
  refine Wk.callS W0 hx hoZ (y := (⟨"java/lang/StringUTF16", "length", "([B)I"⟩ : MethodName)) (wd hw 124 rfl) (wd hw 125 rfl) (wd hw 69 rfl) (wd hw 126 rfl) (by decide) (Wd := 1) (CN.back (rmULn1 l Z a0 hw b kb (OwnKit.i2b c0) (OwnKit.i2b (c0 >>> ((8 : Int32) &&& 31))) h0 W0.old Vb) W0.warm (wd hw 126 rfl) (wd hw 69 rfl) (by decide) (by decide)) (by rw [hml]; rfl) [(.ref b)] [(.int (0 : Int32))] (lenOf pd10 rfl) rfl rfl (Nat.le_of_eq rfl) 5 (hb hby d25_2) rfl (by decide) (by decide) (fun _ q => nomatch q) ?_
  intro v1 T1 h1 W1 K1 Ch1 Q1
  have H1 := W1.here; have z1 := K1.1
  obtain ⟨rfl, eh1⟩ := Q1
  show Goes p e below (PostN s Z h0 [] (QUCk1_0 Z fm b kb c0 h0) ({ frames := 2, cells := 0, slots := 0, locals := 40 } : Room).cells ({ frames := 2, cells := 0, slots := 0, locals := 40 } : Room).slots) (T1.setTop (mkF m 5 #[.val (.int (0 : Int32)), .val (.ref b)] [(.int (1 : Int32)), (.int (0 : Int32))]))
  refine Wk.callS W1 hx hoZ (y := (⟨"java/lang/String", "checkIndex", "(II)V"⟩ : MethodName)) (wd hw 127 rfl) (wd hw 92 rfl) (wd hw 3 rfl) (wd hw 93 rfl) (by decide) (Wd := 0) (CN.back (rmSCk l Z a0 hw fm (0 : Int32) (1 : Int32) h1 W1.old hFM hfm (by decide) (by decide)) W1.warm (wd hw 93 rfl) (wd hw 3 rfl) (by decide) (by decide)) (by rw [hml]; rfl) [(.int (0 : Int32)), (.int (1 : Int32))] [] (lenOf pd11 rfl) rfl rfl (Nat.le_of_eq rfl) 8 (hb hby d25_5) rfl (by decide) (by decide) (fun _ q => nomatch q) ?_
  intro v2 T2 h2 W2 K2 Ch2 Q2
  have H2 := W2.here; have z2 := K2.1
  obtain ⟨rfl, eh2⟩ := Q2
  show Goes p e below (PostN s Z h0 [] (QUCk1_0 Z fm b kb c0 h0) ({ frames := 2, cells := 0, slots := 0, locals := 40 } : Room).cells ({ frames := 2, cells := 0, slots := 0, locals := 40 } : Room).slots) (T2.setTop (mkF m 8 #[.val (.int (0 : Int32)), .val (.ref b)] []))
  exact Wk.retV W2 hx hret hlk (hb hby d25_8) (by decide) (by decide) ⟨rfl, (by rw [eh2, eh1])⟩
def QUCh1_0 (Z : State) (fm : Value) (b : Addr) (kb : ClassId) (c0 : Int32) (h0 : Heap) : Option Value → Heap → Prop := fun v h => v = some (.int c0) ∧ h = h0
set_option maxRecDepth 65536 in
set_option maxHeartbeats 40000000 in
theorem rmUCh1_0 (l : Launch) (Z : State) (a0 : Array Value) (hw : ∀ d ∈ tables_1, d.before a0 Z = true) (fm : Value) (b : Addr) (kb : ClassId) (c0 : Int32) (h0 : Heap) (O : Ext Z.heap h0) (hAD : Sta Z Z.heap "java/lang/StringUTF16" "$assertionsDisabled" "Z" (.int 1)) (hHI : Sta Z Z.heap "java/lang/StringUTF16" "HI_BYTE_SHIFT" "I" (.int 0)) (hLO : Sta Z Z.heap "java/lang/StringUTF16" "LO_BYTE_SHIFT" "I" (.int 8)) (w0 : C16 c0) (hFM : Sta Z Z.heap "jdk/internal/util/Preconditions" "SIOOBE_FORMATTER" "Ljava/util/function/BiFunction;" fm) (hfm : fm.isRef = true) (Vb : Arv Z h0 b kb .byte 2 [(.int (OwnKit.i2b c0)), (.int (OwnKit.i2b (c0 >>> ((8 : Int32) &&& 31))))] (.int 0)) :
    CN [] l Z (⟨"java/lang/StringUTF16", "charAt", "([BI)C"⟩ : MethodName) jdk_52_method_83_code 2 (Option.some Jvm.ClassFile.FieldType.char) ({ frames := 3, cells := 0, slots := 0, locals := 60 } : Room) #[(.ref b), (.int (0 : Int32))] h0 [] (QUCh1_0 Z fm b kb c0 h0) := by
  refine CN.of_walk (plainFor_of_name pn2) O (fun _ q => nomatch q) ?_
  intro p e s m below meth c T0 W0 hx hby hml hoZ hnm hret hlk
  have H0 := W0.here; have hz0 := W0.zsize
  refine Goes.cast (ef4 m b (0 : Int32)) ?_
  refine G.iloadN H0 hx 1 (hb hby d24_0) rfl rfl ?_
  refine G.aloadN H0 hx 2 (hb hby d24_1) rfl rfl rfl ?_
  refine Wk.callS W0 hx hoZ (y := (⟨"java/lang/StringUTF16", "checkIndex", "(I[B)V"⟩ : MethodName)) (wd hw 121 rfl) (wd hw 122 rfl) (wd hw 69 rfl) (wd hw 123 rfl) (by decide) (Wd := 0) (CN.back (rmUCk1_0 l Z a0 hw fm b kb c0 h0 W0.old hFM hfm Vb) W0.warm (wd hw 123 rfl) (wd hw 69 rfl) (by decide) (by decide)) (by rw [hml]; rfl) [(.int (0 : Int32)), (.ref b)] [] (lenOf pd12 rfl) rfl rfl (Nat.le_of_eq rfl) 5 (hb hby d24_2) rfl (by decide) (by decide) (fun _ q => nomatch q) ?_
  intro v1 T1 h1 W1 K1 Ch1 Q1
  have H1 := W1.here; have z1 := K1.1
  obtain ⟨rfl, eh1⟩ := Q1
  show Goes p e below (PostN s Z h0 [] (QUCh1_0 Z fm b kb c0 h0) ({ frames := 3, cells := 0, slots := 0, locals := 60 } : Room).cells ({ frames := 3, cells := 0, slots := 0, locals := 60 } : Room).slots) (T1.setTop (mkF m 5 #[.val (.ref b), .val (.int (0 : Int32))] []))
  refine G.aloadN H1 hx 6 (hb hby d24_5) rfl rfl rfl ?_
  refine G.iloadN H1 hx 7 (hb hby d24_6) rfl rfl ?_
  refine Wk.callS W1 hx hoZ (y := (⟨"java/lang/StringUTF16", "getChar", "([BI)C"⟩ : MethodName)) (wd hw 115 rfl) (wd hw 116 rfl) (wd hw 69 rfl) (wd hw 117 rfl) (by decide) (Wd := 0) (CN.back (rmUGc1_0 l Z a0 hw b kb (OwnKit.i2b c0) (OwnKit.i2b (c0 >>> ((8 : Int32) &&& 31))) h1 W1.old hAD hHI hLO (Vb.keep K1 nin0)) W1.warm (wd hw 117 rfl) (wd hw 69 rfl) (by decide) (by decide)) (by rw [hml]; rfl) [(.ref b), (.int (0 : Int32))] [] (lenOf pd6 rfl) rfl rfl (Nat.le_of_eq rfl) 10 (hb hby d24_7) rfl (by decide) (by decide) (fun _ q => nomatch q) ?_
  intro v2 T2 h2 W2 K2 Ch2 Q2
  have H2 := W2.here; have z2 := K2.1
  obtain ⟨rfl, eh2⟩ := Q2
  show Goes p e below (PostN s Z h0 [] (QUCh1_0 Z fm b kb c0 h0) ({ frames := 3, cells := 0, slots := 0, locals := 60 } : Room).cells ({ frames := 3, cells := 0, slots := 0, locals := 60 } : Room).slots) (T2.setTop (mkF m 10 #[.val (.ref b), .val (.int (0 : Int32))] [(.int (OwnKit.i2c ((((OwnKit.i2b c0) &&& (255 : Int32)) <<< ((0 : Int32) &&& 31)) ||| (((OwnKit.i2b (c0 >>> ((8 : Int32) &&& 31))) &&& (255 : Int32)) <<< ((8 : Int32) &&& 31)))))]))
  rw [pair16 w0]
  show Goes p e below (PostN s Z h0 [] (QUCh1_0 Z fm b kb c0 h0) ({ frames := 3, cells := 0, slots := 0, locals := 60 } : Room).cells ({ frames := 3, cells := 0, slots := 0, locals := 60 } : Room).slots) (T2.setTop (mkF m 10 #[.val (.ref b), .val (.int (0 : Int32))] [(.int c0)]))
  exact Wk.retN W2 hx c0 (t := .char) (nar_c16 w0) (by simp) hret hlk (hb hby d24_10) (by decide) (by decide) ⟨rfl, (by rw [eh2, eh1])⟩
def QUSc1_0 (Z : State) (cz : Int32) (fm : Value) (a : Addr) (b : Addr) (kb : ClassId) (c0 : Int32) (h0 : Heap) : Option Value → Heap → Prop := fun v h => v = some (.int c0) ∧ h = h0
set_option maxRecDepth 65536 in
set_option maxHeartbeats 40000000 in
theorem rmUSc1_0 (l : Launch) (Z : State) (a0 : Array Value) (hw : ∀ d ∈ tables_1, d.before a0 Z = true) (cz : Int32) (fm : Value) (a : Addr) (b : Addr) (kb : ClassId) (c0 : Int32) (h0 : Heap) (O : Ext Z.heap h0) (hAD : Sta Z Z.heap "java/lang/StringUTF16" "$assertionsDisabled" "Z" (.int 1)) (hHI : Sta Z Z.heap "java/lang/StringUTF16" "HI_BYTE_SHIFT" "I" (.int 0)) (hLO : Sta Z Z.heap "java/lang/StringUTF16" "LO_BYTE_SHIFT" "I" (.int 8)) (w0 : C16 c0) (hFM : Sta Z Z.heap "jdk/internal/util/Preconditions" "SIOOBE_FORMATTER" "Ljava/util/function/BiFunction;" fm) (hfm : fm.isRef = true) (hCS : Sta Z Z.heap "java/lang/String" "COMPACT_STRINGS" "Z" (.int cz)) (hcz : ¬ cz = 0) (Ea : Exa Z h0 a "java/lang/String") (Fc : Fld Z h0 a "java/lang/String" "coder" "B" (.int 1)) (Fv : Fld Z h0 a "java/lang/String" "value" "[B" (.ref b)) (Vb : Arv Z h0 b kb .byte 2 [(.int (OwnKit.i2b c0)), (.int (OwnKit.i2b (c0 >>> ((8 : Int32) &&& 31))))] (.int 0)) :
    CN [] l Z (⟨"java/lang/String", "charAt", "(I)C"⟩ : MethodName) jdk_42_method_56_code 2 (Option.some Jvm.ClassFile.FieldType.char) ({ frames := 4, cells := 0, slots := 0, locals := 80 } : Room) #[(.ref a), (.int (0 : Int32))] h0 [] (QUSc1_0 Z cz fm a b kb c0 h0) := by
  refine CN.of_walk (plainFor_of_name pn0) O (fun _ q => nomatch q) ?_
  intro p e s m below meth c T0 W0 hx hby hml hoZ hnm hret hlk
  have H0 := W0.here; have hz0 := W0.zsize
  refine Goes.cast (ef4 m a (0 : Int32)) ?_
  refine G.aloadN H0 hx 1 (hb hby d14_0) rfl rfl rfl ?_
  refine Wk.virtual W0 hx hoZ (y := (⟨"java/lang/String", "isLatin1", "()Z"⟩ : MethodName)) (z := (⟨"java/lang/String", "isLatin1", "()Z"⟩ : MethodName)) (wd hw 82 rfl) (wd hw 83 rfl) (wd hw 85 rfl) (wd hw 84 rfl) (W0.nf (wd hw 85 rfl)) (by decide) (Wd := 0) (CN.back (rmLatW l Z a0 hw cz a h0 W0.old hCS hcz Ea Fc) W0.warm (wd hw 86 rfl) (wd hw 3 rfl) (by decide) (by decide)) Ea (by rw [hml]; rfl) [] [] (lenOf pd13 rfl) rfl rfl (Nat.le_of_eq rfl) 4 (hb hby d14_1) rfl (by decide) (by decide) (fun _ q => nomatch q) ?_
  intro v1 T1 h1 W1 K1 Ch1 Q1
  have H1 := W1.here; have z1 := K1.1
  obtain ⟨rfl, eh1⟩ := Q1
  show Goes p e below (PostN s Z h0 [] (QUSc1_0 Z cz fm a b kb c0 h0) ({ frames := 4, cells := 0, slots := 0, locals := 80 } : Room).cells ({ frames := 4, cells := 0, slots := 0, locals := 80 } : Room).slots) (T1.setTop (mkF m 4 #[.val (.ref a), .val (.int (0 : Int32))] [(.int (0 : Int32))]))
  refine G.ifY H1 hx 16 (hb hby d14_4) (zeq (by decide)).1 (by decide) rfl ?_
  refine G.aloadN H1 hx 17 (hb hby d14_16) rfl rfl rfl ?_
  refine Wk.getF W1 hx hoZ (host := "") (Or.inl (wd hw 20 rfl)) Via.refl (Fv.keep K1 nin0) 20 (hb hby d14_17) rfl ?_
  intro T2 W2; have H2 := W2.here
  refine G.iloadN H2 hx 21 (hb hby d14_20) rfl rfl ?_
  refine Wk.callS W2 hx hoZ (y := (⟨"java/lang/StringUTF16", "charAt", "([BI)C"⟩ : MethodName)) (wd hw 118 rfl) (wd hw 119 rfl) (wd hw 69 rfl) (wd hw 120 rfl) (by decide) (Wd := 0) (CN.back (rmUCh1_0 l Z a0 hw fm b kb c0 h1 W2.old hAD hHI hLO w0 hFM hfm (Vb.keep K1 nin0)) W2.warm (wd hw 120 rfl) (wd hw 69 rfl) (by decide) (by decide)) (by rw [hml]; rfl) [(.ref b), (.int (0 : Int32))] [] (lenOf pd6 rfl) rfl rfl (Nat.le_of_eq rfl) 24 (hb hby d14_21) rfl (by decide) (by decide) (fun _ q => nomatch q) ?_
  intro v3 T3 h3 W3 K3 Ch3 Q3
  have H3 := W3.here; have z3 := K3.1
  obtain ⟨rfl, eh3⟩ := Q3
  show Goes p e below (PostN s Z h0 [] (QUSc1_0 Z cz fm a b kb c0 h0) ({ frames := 4, cells := 0, slots := 0, locals := 80 } : Room).cells ({ frames := 4, cells := 0, slots := 0, locals := 80 } : Room).slots) (T3.setTop (mkF m 24 #[.val (.ref a), .val (.int (0 : Int32))] [(.int c0)]))
  exact Wk.retN W3 hx c0 (t := .char) (nar_c16 w0) (by simp) hret hlk (hb hby d14_24) (by decide) (by decide) ⟨rfl, (by rw [eh3, eh1])⟩
def QUCm2 (Z : State) (pz : Addr) (kp : ClassId) (c0 : Int32) (c1 : Int32) (q : Addr) (kq : ClassId) (h0 : Heap) : Option Value → Heap → Prop := fun v h => v = some (.int (if (255 : Int32) < c0 then (0 : Int32) else (if (255 : Int32) < c1 then (1 : Int32) else (2 : Int32))))
set_option maxRecDepth 65536 in
set_option maxHeartbeats 40000000 in
theorem rmUCm2 (l : Launch) (Z : State) (a0 : Array Value) (hw : ∀ d ∈ tables_1, d.before a0 Z = true) (pz : Addr) (kp : ClassId) (c0 : Int32) (c1 : Int32) (q : Addr) (kq : ClassId) (h0 : Heap) (O : Ext Z.heap h0) (Vp : Arv Z h0 pz kp .char 2 [(.int c0), (.int c1)] (.int 0)) (gz_q : Z.heap.size ≤ q) (Vq : Arv Z h0 q kq .byte 2 [(.int (0 : Int32)), (.int (0 : Int32))] (.int 0)) (npq0 : pz ≠ q) :
    CN [] l Z (⟨"java/lang/StringUTF16", "compress", "([CI[BII)I"⟩ : MethodName) jdk_52_method_21_code 7 (Option.some Jvm.ClassFile.FieldType.int) ({ frames := 0, cells := 0, slots := 0, locals := 0 } : Room) #[(.ref pz), (.int (0 : Int32)), (.ref q), (.int (0 : Int32)), (.int (2 : Int32))] h0 [q] (QUCm2 Z pz kp c0 c1 q kq h0) := by
  refine CN.of_walk (plainFor_of_name pn2) O (ala gz_q ala0) ?_
  intro p e s m below meth c T0 W0 hx hby hml hoZ hnm hret hlk
  have H0 := W0.here; have hz0 := W0.zsize
  refine Goes.cast (ef5 m pz (0 : Int32) q (0 : Int32) (2 : Int32)) ?_
  have lp := ltN Vp.lt
  have lq := ltN Vq.lt; have npq := neN npq0
  refine G.iconst H0 hx 1 (0 : Int32) (hb hby d12_0) rfl rfl ?_
  refine G.istoreX H0 hx 3 #[.val (.ref pz), .val (.int (0 : Int32)), .val (.ref q), .val (.int (0 : Int32)), .val (.int (2 : Int32)), .val (.int (0 : Int32)), .unset] (hb hby d12_1) rfl rfl ?_
  refine G.iload H0 hx 5 (hb hby d12_3) rfl rfl ?_
  refine G.iload H0 hx 7 (hb hby d12_5) rfl rfl ?_
  refine G.icmpN H0 hx 10 (hb hby d12_7) (tlt (by decide)).2.1 rfl ?_
  refine G.aloadN H0 hx 11 (hb hby d12_10) rfl rfl rfl ?_
  refine G.iloadN H0 hx 12 (hb hby d12_11) rfl rfl ?_
  refine Wk.caload W0 hx Vp ⟨by decide, by decide⟩ (.int c0) rfl 13 (hb hby d12_12) rfl ?_
  refine G.istoreX H0 hx 15 #[.val (.ref pz), .val (.int (0 : Int32)), .val (.ref q), .val (.int (0 : Int32)), .val (.int (2 : Int32)), .val (.int (0 : Int32)), .val (.int c0)] (hb hby d12_13) rfl rfl ?_
  refine G.iload H0 hx 17 (hb hby d12_15) rfl rfl ?_
  refine G.sipush H0 hx 20 (255 : Int32) (hb hby d12_17) rfl rfl ?_
  by_cases c20_1 : (255 : Int32) < c0
  ·
    refine G.icmpN H0 hx 23 (hb hby d12_20) (tlt c20_1).2.2.2 rfl ?_
    refine G.iload H0 hx 25 (hb hby d12_23) rfl rfl ?_
    exact Wk.retI W0 hx hret hlk (hb hby d12_25) (by decide) (by decide) (by unfold QUCm2; simp only [if_pos c20_1])
  ·
    refine G.icmpY H0 hx 26 (hb hby d12_20) (flt c20_1).2.2.2 (by decide) rfl ?_
    refine G.aloadN H0 hx 27 (hb hby d12_26) rfl rfl rfl ?_
    refine G.iloadN H0 hx 28 (hb hby d12_27) rfl rfl ?_
    refine G.iload H0 hx 30 (hb hby d12_28) rfl rfl ?_
    refine G.i2b H0 hx 31 (hb hby d12_30) rfl ?_
    refine Wk.bastore W0 hx Vq (Or.inl (by simp)) safe0 (OwnKit.i2b c0) (i2b_i2b _) 0 rfl ⟨by decide, by decide⟩ (Nat.le_of_ble_eq_true rfl) 32 (hb hby d12_31) rfl ?_
    intro T2 h2 W2 K2 Ch2 V2; have H2 := W2.here; have z2 := K2.1
    have V2 : Arv Z h2 q kq .byte (2 : Int32) [(.int (OwnKit.i2b c0)), (.int (0 : Int32))] (.int 0) := V2
    refine G.iincX H2 hx 35 #[.val (.ref pz), .val (.int (1 : Int32)), .val (.ref q), .val (.int (0 : Int32)), .val (.int (2 : Int32)), .val (.int (0 : Int32)), .val (.int c0)] (hb hby d12_32) rfl (1 : Int32) rfl rfl rfl ?_
    refine G.iincX H2 hx 38 #[.val (.ref pz), .val (.int (1 : Int32)), .val (.ref q), .val (.int (1 : Int32)), .val (.int (2 : Int32)), .val (.int (0 : Int32)), .val (.int c0)] (hb hby d12_35) rfl (1 : Int32) rfl rfl rfl ?_
    refine G.iincX H2 hx 41 #[.val (.ref pz), .val (.int (1 : Int32)), .val (.ref q), .val (.int (1 : Int32)), .val (.int (2 : Int32)), .val (.int (1 : Int32)), .val (.int c0)] (hb hby d12_38) rfl (1 : Int32) rfl rfl rfl ?_
    refine G.goto H2 hx 3 (hb hby d12_41) (by decide) rfl ?_
    refine G.iload H2 hx 5 (hb hby d12_3) rfl rfl ?_
    refine G.iload H2 hx 7 (hb hby d12_5) rfl rfl ?_
    refine G.icmpN H2 hx 10 (hb hby d12_7) (tlt (by decide)).2.1 rfl ?_
    refine G.aloadN H2 hx 11 (hb hby d12_10) rfl rfl rfl ?_
    refine G.iloadN H2 hx 12 (hb hby d12_11) rfl rfl ?_
    refine Wk.caload W2 hx (Vp.keep K2 (ninS (neA (by omega)) nin0)) ⟨by decide, by decide⟩ (.int c1) rfl 13 (hb hby d12_12) rfl ?_
    refine G.istoreX H2 hx 15 #[.val (.ref pz), .val (.int (1 : Int32)), .val (.ref q), .val (.int (1 : Int32)), .val (.int (2 : Int32)), .val (.int (1 : Int32)), .val (.int c1)] (hb hby d12_13) rfl rfl ?_
    refine G.iload H2 hx 17 (hb hby d12_15) rfl rfl ?_
    refine G.sipush H2 hx 20 (255 : Int32) (hb hby d12_17) rfl rfl ?_
    by_cases c20_3 : (255 : Int32) < c1
    ·
      refine G.icmpN H2 hx 23 (hb hby d12_20) (tlt c20_3).2.2.2 rfl ?_
      refine G.iload H2 hx 25 (hb hby d12_23) rfl rfl ?_
      exact Wk.retI W2 hx hret hlk (hb hby d12_25) (by decide) (by decide) (by unfold QUCm2; simp only [if_neg c20_1, if_pos c20_3])
    ·
      refine G.icmpY H2 hx 26 (hb hby d12_20) (flt c20_3).2.2.2 (by decide) rfl ?_
      refine G.aloadN H2 hx 27 (hb hby d12_26) rfl rfl rfl ?_
      refine G.iloadN H2 hx 28 (hb hby d12_27) rfl rfl ?_
      refine G.iload H2 hx 30 (hb hby d12_28) rfl rfl ?_
      refine G.i2b H2 hx 31 (hb hby d12_30) rfl ?_
      refine Wk.bastore W2 hx V2 (Or.inl (by simp)) safe0 (OwnKit.i2b c1) (i2b_i2b _) 1 rfl ⟨by decide, by decide⟩ (Nat.le_of_ble_eq_true rfl) 32 (hb hby d12_31) rfl ?_
      intro T4 h4 W4 K4 Ch4 V4; have H4 := W4.here; have z4 := K4.1
      have V4 : Arv Z h4 q kq .byte (2 : Int32) [(.int (OwnKit.i2b c0)), (.int (OwnKit.i2b c1))] (.int 0) := V4
      refine G.iincX H4 hx 35 #[.val (.ref pz), .val (.int (2 : Int32)), .val (.ref q), .val (.int (1 : Int32)), .val (.int (2 : Int32)), .val (.int (1 : Int32)), .val (.int c1)] (hb hby d12_32) rfl (1 : Int32) rfl rfl rfl ?_
      refine G.iincX H4 hx 38 #[.val (.ref pz), .val (.int (2 : Int32)), .val (.ref q), .val (.int (2 : Int32)), .val (.int (2 : Int32)), .val (.int (1 : Int32)), .val (.int c1)] (hb hby d12_35) rfl (1 : Int32) rfl rfl rfl ?_
      refine G.iincX H4 hx 41 #[.val (.ref pz), .val (.int (2 : Int32)), .val (.ref q), .val (.int (2 : Int32)), .val (.int (2 : Int32)), .val (.int (2 : Int32)), .val (.int c1)] (hb hby d12_38) rfl (1 : Int32) rfl rfl rfl ?_
      refine G.goto H4 hx 3 (hb hby d12_41) (by decide) rfl ?_
      refine G.iload H4 hx 5 (hb hby d12_3) rfl rfl ?_
      refine G.iload H4 hx 7 (hb hby d12_5) rfl rfl ?_
      refine G.icmpY H4 hx 44 (hb hby d12_7) (flt (by decide)).2.1 (by decide) rfl ?_
      refine G.iload H4 hx 46 (hb hby d12_44) rfl rfl ?_
      exact Wk.retI W4 hx hret hlk (hb hby d12_46) (by decide) (by decide) (by unfold QUCm2; simp only [if_neg c20_1, if_neg c20_3])
def QUNl2 (Z : State)  (h0 : Heap) : Option Value → Heap → Prop := fun v h => v = some (.int 4) ∧ h = h0
set_option maxRecDepth 65536 in
set_option maxHeartbeats 40000000 in
theorem rmUNl2 (l : Launch) (Z : State) (a0 : Array Value) (hw : ∀ d ∈ tables_1, d.before a0 Z = true)  (h0 : Heap) (O : Ext Z.heap h0) :
    CN [] l Z (⟨"java/lang/StringUTF16", "newBytesLength", "(I)I"⟩ : MethodName) jdk_52_method_3_code 1 (Option.some Jvm.ClassFile.FieldType.int) ({ frames := 0, cells := 0, slots := 0, locals := 0 } : Room) #[(.int (2 : Int32))] h0 [] (QUNl2 Z  h0) := by
  refine CN.of_walk (plainFor_of_name pn2) O (fun _ q => nomatch q) ?_
  intro p e s m below meth c T0 W0 hx hby hml hoZ hnm hret hlk
  have H0 := W0.here; have hz0 := W0.zsize
  refine Goes.cast (ef6 m (2 : Int32)) ?_
  refine G.iloadN H0 hx 1 (hb hby d21_0) rfl rfl ?_
  refine G.ifY H0 hx 12 (hb hby d21_1) (znl (by decide)).2 (by decide) rfl ?_
  refine G.iloadN H0 hx 13 (hb hby d21_12) rfl rfl ?_
  refine Wk.ldcI W0 hx hoZ (wd hw 108 rfl) 15 (hb hby d21_13) rfl ?_
  refine G.icmpY H0 hx 55 (hb hby d21_15) (tlt (by decide)).1 (by decide) rfl ?_
  refine G.iloadN H0 hx 56 (hb hby d21_55) rfl rfl ?_
  refine G.iconst H0 hx 57 (1 : Int32) (hb hby d21_56) rfl rfl ?_
  refine G.ishlF H0 hx 58 (4 : Int32) (hb hby d21_57) (by decide) rfl ?_
  exact Wk.retI W0 hx hret hlk (hb hby d21_58) (by decide) (by decide) ⟨rfl, rfl⟩
def QUNf2 (Z : State)  (h0 : Heap) : Option Value → Heap → Prop := fun v h => ∃ (b : Addr) (k : ClassId), v = some (.ref b) ∧ h0.size ≤ b ∧ Arv Z h b k .byte 4 [(.int (0 : Int32)), (.int (0 : Int32)), (.int (0 : Int32)), (.int (0 : Int32))] (.int 0)
set_option maxRecDepth 65536 in
set_option maxHeartbeats 40000000 in
theorem rmUNf2 (l : Launch) (Z : State) (a0 : Array Value) (hw : ∀ d ∈ tables_1, d.before a0 Z = true)  (h0 : Heap) (O : Ext Z.heap h0) :
    CN [] l Z (⟨"java/lang/StringUTF16", "newBytesFor", "(I)[B"⟩ : MethodName) jdk_52_method_2_code 1 (Option.some (Jvm.ClassFile.FieldType.array Jvm.ClassFile.FieldType.byte)) ({ frames := 1, cells := 1, slots := 4, locals := 14 } : Room) #[(.int (2 : Int32))] h0 [] (QUNf2 Z  h0) := by
  refine CN.of_walk (plainFor_of_name pn2) O (fun _ q => nomatch q) ?_
  intro p e s m below meth c T0 W0 hx hby hml hoZ hnm hret hlk
  have H0 := W0.here; have hz0 := W0.zsize
  refine Goes.cast (ef6 m (2 : Int32)) ?_
  refine G.iloadN H0 hx 1 (hb hby d20_0) rfl rfl ?_
  refine Wk.callS W0 hx hoZ (y := (⟨"java/lang/StringUTF16", "newBytesLength", "(I)I"⟩ : MethodName)) (wd hw 105 rfl) (wd hw 106 rfl) (wd hw 69 rfl) (wd hw 107 rfl) (by decide) (Wd := 0) (CN.back (rmUNl2 l Z a0 hw  h0 W0.old ) W0.warm (wd hw 107 rfl) (wd hw 69 rfl) (by decide) (by decide)) (by rw [hml]; rfl) [(.int (2 : Int32))] [] (lenOf pd1 rfl) rfl rfl (Nat.le_of_eq rfl) 4 (hb hby d20_1) rfl (by decide) (by decide) (fun _ q => nomatch q) ?_
  intro v1 T1 h1 W1 K1 Ch1 Q1
  have H1 := W1.here; have z1 := K1.1
  obtain ⟨rfl, eh1⟩ := Q1
  show Goes p e below (PostN s Z h0 [] (QUNf2 Z  h0) ({ frames := 1, cells := 1, slots := 4, locals := 14 } : Room).cells ({ frames := 1, cells := 1, slots := 4, locals := 14 } : Room).slots) (T1.setTop (mkF m 4 #[.val (.int (2 : Int32))] [(.int (4 : Int32))]))
  refine Wk.newP W1 hx (wd hw 15 rfl) 6 (hb hby d20_4) (by decide) 4 (by decide) rfl (by decide) (by decide) (by decide) ?_
  intro T2 h2 a2 k2 W2 E2 g2 V2 S2
  have H2 := W2.here; have z2 := E2.1; have gu2 := Nat.le_of_eq g2; have gt2 := Nat.le_of_eq g2.symm; have l2 := ltN V2.lt
  have V2 : Arv Z h2 a2 k2 .byte (4 : Int32) [(.int (0 : Int32)), (.int (0 : Int32)), (.int (0 : Int32)), (.int (0 : Int32))] (.int (0 : Int32)) := V2
  exact Wk.retA W2 hx (t := (.array .byte)) rfl rfl hret hlk (hb hby d20_6) (by decide) (by decide) ⟨_, _, rfl, by omega, V2⟩
def QUTb2 (Z : State) (pz : Addr) (kp : ClassId) (c0 : Int32) (c1 : Int32) (h0 : Heap) : Option Value → Heap → Prop := fun v h => ∃ (b : Addr) (k : ClassId), v = some (.ref b) ∧ h0.size ≤ b ∧ Arv Z h b k .byte 4 [(.int (OwnKit.i2b c0)), (.int (OwnKit.i2b (c0 >>> ((8 : Int32) &&& 31)))), (.int (OwnKit.i2b c1)), (.int (OwnKit.i2b (c1 >>> ((8 : Int32) &&& 31))))] (.int 0)
set_option maxRecDepth 65536 in
set_option maxHeartbeats 40000000 in
theorem rmUTb2 (l : Launch) (Z : State) (a0 : Array Value) (hw : ∀ d ∈ tables_1, d.before a0 Z = true) (pz : Addr) (kp : ClassId) (c0 : Int32) (c1 : Int32) (h0 : Heap) (O : Ext Z.heap h0) (hAD : Sta Z Z.heap "java/lang/StringUTF16" "$assertionsDisabled" "Z" (.int 1)) (hHI : Sta Z Z.heap "java/lang/StringUTF16" "HI_BYTE_SHIFT" "I" (.int 0)) (hLO : Sta Z Z.heap "java/lang/StringUTF16" "LO_BYTE_SHIFT" "I" (.int 8)) (Vp : Arv Z h0 pz kp .char 2 [(.int c0), (.int c1)] (.int 0)) :
    CN [] l Z (⟨"java/lang/StringUTF16", "toBytes", "([CII)[B"⟩ : MethodName) jdk_52_method_14_code 5 (Option.some (Jvm.ClassFile.FieldType.array Jvm.ClassFile.FieldType.byte)) ({ frames := 2, cells := 1, slots := 4, locals := 40 } : Room) #[(.ref pz), (.int (0 : Int32)), (.int (2 : Int32))] h0 [] (QUTb2 Z pz kp c0 c1 h0) := by
  refine CN.of_walk (plainFor_of_name pn2) O (fun _ q => nomatch q) ?_
  intro p e s m below meth c T0 W0 hx hby hml hoZ hnm hret hlk
  have H0 := W0.here; have hz0 := W0.zsize
  refine Goes.cast (ef7 m pz (0 : Int32) (2 : Int32)) ?_
  have lp := ltN Vp.lt
  refine G.iloadN H0 hx 1 (hb hby d19_0) rfl rfl ?_
  refine Wk.callS W0 hx hoZ (y := (⟨"java/lang/StringUTF16", "newBytesFor", "(I)[B"⟩ : MethodName)) (wd hw 102 rfl) (wd hw 103 rfl) (wd hw 69 rfl) (wd hw 104 rfl) (by decide) (Wd := 0) (CN.back (rmUNf2 l Z a0 hw  h0 W0.old ) W0.warm (wd hw 104 rfl) (wd hw 69 rfl) (by decide) (by decide)) (by rw [hml]; rfl) [(.int (2 : Int32))] [] (lenOf pd2 rfl) rfl rfl (Nat.le_of_eq rfl) 4 (hb hby d19_1) rfl (by decide) (by decide) (fun _ q => nomatch q) ?_
  intro v1 T1 h1 W1 K1 Ch1 Q1
  have H1 := W1.here; have z1 := K1.1
  obtain ⟨b1, k1, rfl, g1, V1⟩ := Q1; have l1 := ltN V1.lt
  show Goes p e below (PostN s Z h0 [] (QUTb2 Z pz kp c0 c1 h0) ({ frames := 2, cells := 1, slots := 4, locals := 40 } : Room).cells ({ frames := 2, cells := 1, slots := 4, locals := 40 } : Room).slots) (T1.setTop (mkF m 4 #[.val (.ref pz), .val (.int (0 : Int32)), .val (.int (2 : Int32)), .unset, .unset] [(.ref b1)]))
  refine G.astoreN H1 hx 5 #[.val (.ref pz), .val (.int (0 : Int32)), .val (.int (2 : Int32)), .val (.ref b1), .unset] (hb hby d19_4) rfl rfl rfl ?_
  refine G.iconst H1 hx 6 (0 : Int32) (hb hby d19_5) rfl rfl ?_
  refine G.istoreX H1 hx 8 #[.val (.ref pz), .val (.int (0 : Int32)), .val (.int (2 : Int32)), .val (.ref b1), .val (.int (0 : Int32))] (hb hby d19_6) rfl rfl ?_
  refine G.iload H1 hx 10 (hb hby d19_8) rfl rfl ?_
  refine G.iloadN H1 hx 11 (hb hby d19_10) rfl rfl ?_
  refine G.icmpN H1 hx 14 (hb hby d19_11) (tlt (by decide)).2.1 rfl ?_
  refine G.aloadN H1 hx 15 (hb hby d19_14) rfl rfl rfl ?_
  refine G.iload H1 hx 17 (hb hby d19_15) rfl rfl ?_
  refine G.aloadN H1 hx 18 (hb hby d19_17) rfl rfl rfl ?_
  refine G.iloadN H1 hx 19 (hb hby d19_18) rfl rfl ?_
  refine Wk.caload W1 hx (Vp.keep K1 nin0) ⟨by decide, by decide⟩ (.int c0) rfl 20 (hb hby d19_19) rfl ?_
  refine Wk.callS W1 hx hoZ (y := (⟨"java/lang/StringUTF16", "putChar", "([BII)V"⟩ : MethodName)) (wd hw 109 rfl) (wd hw 110 rfl) (wd hw 69 rfl) (wd hw 111 rfl) (by decide) (Wd := 0) (CN.back (rmUPc2_0 l Z a0 hw b1 k1 c0 (0 : Int32) (0 : Int32) (0 : Int32) (0 : Int32) h1 W1.old hAD hHI hLO (by omega) V1) W1.warm (wd hw 111 rfl) (wd hw 69 rfl) (by decide) (by decide)) (by rw [hml]; rfl) [(.ref b1), (.int (0 : Int32)), (.int c0)] [] (lenOf pd3 rfl) rfl rfl (Nat.le_of_eq rfl) 23 (hb hby d19_20) rfl (by decide) (by decide) (hws1 (Or.inr (by omega)) safe0) ?_
  intro v2 T2 h2 W2 K2 Ch2 Q2
  have H2 := W2.here; have z2 := K2.1
  obtain ⟨rfl, V2⟩ := Q2
  show Goes p e below (PostN s Z h0 [] (QUTb2 Z pz kp c0 c1 h0) ({ frames := 2, cells := 1, slots := 4, locals := 40 } : Room).cells ({ frames := 2, cells := 1, slots := 4, locals := 40 } : Room).slots) (T2.setTop (mkF m 23 #[.val (.ref pz), .val (.int (0 : Int32)), .val (.int (2 : Int32)), .val (.ref b1), .val (.int (0 : Int32))] []))
  refine G.iincX H2 hx 26 #[.val (.ref pz), .val (.int (1 : Int32)), .val (.int (2 : Int32)), .val (.ref b1), .val (.int (0 : Int32))] (hb hby d19_23) rfl (1 : Int32) rfl rfl rfl ?_
  refine G.iincX H2 hx 29 #[.val (.ref pz), .val (.int (1 : Int32)), .val (.int (2 : Int32)), .val (.ref b1), .val (.int (1 : Int32))] (hb hby d19_26) rfl (1 : Int32) rfl rfl rfl ?_
  refine G.goto H2 hx 8 (hb hby d19_29) (by decide) rfl ?_
  refine G.iload H2 hx 10 (hb hby d19_8) rfl rfl ?_
  refine G.iloadN H2 hx 11 (hb hby d19_10) rfl rfl ?_
  refine G.icmpN H2 hx 14 (hb hby d19_11) (tlt (by decide)).2.1 rfl ?_
  refine G.aloadN H2 hx 15 (hb hby d19_14) rfl rfl rfl ?_
  refine G.iload H2 hx 17 (hb hby d19_15) rfl rfl ?_
  refine G.aloadN H2 hx 18 (hb hby d19_17) rfl rfl rfl ?_
  refine G.iloadN H2 hx 19 (hb hby d19_18) rfl rfl ?_
  refine Wk.caload W2 hx ((Vp.keep K1 nin0).keep K2 (ninS (neA (by omega)) nin0)) ⟨by decide, by decide⟩ (.int c1) rfl 20 (hb hby d19_19) rfl ?_
  refine Wk.callS W2 hx hoZ (y := (⟨"java/lang/StringUTF16", "putChar", "([BII)V"⟩ : MethodName)) (wd hw 109 rfl) (wd hw 110 rfl) (wd hw 69 rfl) (wd hw 111 rfl) (by decide) (Wd := 0) (CN.back (rmUPc2_1 l Z a0 hw b1 k1 c1 (OwnKit.i2b c0) (OwnKit.i2b (c0 >>> ((8 : Int32) &&& 31))) (0 : Int32) (0 : Int32) h2 W2.old hAD hHI hLO (by omega) V2) W2.warm (wd hw 111 rfl) (wd hw 69 rfl) (by decide) (by decide)) (by rw [hml]; rfl) [(.ref b1), (.int (1 : Int32)), (.int c1)] [] (lenOf pd3 rfl) rfl rfl (Nat.le_of_eq rfl) 23 (hb hby d19_20) rfl (by decide) (by decide) (hws1 (Or.inr (by omega)) safe0) ?_
  intro v3 T3 h3 W3 K3 Ch3 Q3
  have H3 := W3.here; have z3 := K3.1
  obtain ⟨rfl, V3⟩ := Q3
  show Goes p e below (PostN s Z h0 [] (QUTb2 Z pz kp c0 c1 h0) ({ frames := 2, cells := 1, slots := 4, locals := 40 } : Room).cells ({ frames := 2, cells := 1, slots := 4, locals := 40 } : Room).slots) (T3.setTop (mkF m 23 #[.val (.ref pz), .val (.int (1 : Int32)), .val (.int (2 : Int32)), .val (.ref b1), .val (.int (1 : Int32))] []))
  refine G.iincX H3 hx 26 #[.val (.ref pz), .val (.int (2 : Int32)), .val (.int (2 : Int32)), .val (.ref b1), .val (.int (1 : Int32))] (hb hby d19_23) rfl (1 : Int32) rfl rfl rfl ?_
  refine G.iincX H3 hx 29 #[.val (.ref pz), .val (.int (2 : Int32)), .val (.int (2 : Int32)), .val (.ref b1), .val (.int (2 : Int32))] (hb hby d19_26) rfl (1 : Int32) rfl rfl rfl ?_
  refine G.goto H3 hx 8 (hb hby d19_29) (by decide) rfl ?_
  refine G.iload H3 hx 10 (hb hby d19_8) rfl rfl ?_
  refine G.iloadN H3 hx 11 (hb hby d19_10) rfl rfl ?_
  refine G.icmpY H3 hx 32 (hb hby d19_11) (flt (by decide)).2.1 (by decide) rfl ?_
  refine G.aloadN H3 hx 33 (hb hby d19_32) rfl rfl rfl ?_
  exact Wk.retA W3 hx (t := (.array .byte)) rfl rfl hret hlk (hb hby d19_33) (by decide) (by decide) ⟨_, _, rfl, by omega, V3⟩
def QUC3_2 (Z : State) (pz : Addr) (kp : ClassId) (c0 : Int32) (c1 : Int32) (h0 : Heap) : Option Value → Heap → Prop := fun v h => ∃ (b : Addr) (k : ClassId), v = some (.ref b) ∧ h0.size ≤ b ∧ Arv Z h b k .byte 4 [(.int (OwnKit.i2b c0)), (.int (OwnKit.i2b (c0 >>> ((8 : Int32) &&& 31)))), (.int (OwnKit.i2b c1)), (.int (OwnKit.i2b (c1 >>> ((8 : Int32) &&& 31))))] (.int 0)
set_option maxRecDepth 65536 in
set_option maxHeartbeats 40000000 in
theorem rmUC3_2 (l : Launch) (Z : State) (a0 : Array Value) (hw : ∀ d ∈ tables_1, d.before a0 Z = true) (pz : Addr) (kp : ClassId) (c0 : Int32) (c1 : Int32) (h0 : Heap) (O : Ext Z.heap h0) (hAD : Sta Z Z.heap "java/lang/StringUTF16" "$assertionsDisabled" "Z" (.int 1)) (hHI : Sta Z Z.heap "java/lang/StringUTF16" "HI_BYTE_SHIFT" "I" (.int 0)) (hLO : Sta Z Z.heap "java/lang/StringUTF16" "LO_BYTE_SHIFT" "I" (.int 8)) (w0 : C16 c0) (w1 : C16 c1) (hall : ¬ (¬ (255 : Int32) < c0 ∧ ¬ (255 : Int32) < c1)) (Vp : Arv Z h0 pz kp .char 2 [(.int c0), (.int c1)] (.int 0)) :
    CN [] l Z (⟨"java/lang/StringUTF16", "compress", "([CII)[B"⟩ : MethodName) jdk_52_method_16_code 6 (Option.some (Jvm.ClassFile.FieldType.array Jvm.ClassFile.FieldType.byte)) ({ frames := 3, cells := 2, slots := 6, locals := 70 } : Room) #[(.ref pz), (.int (0 : Int32)), (.int (2 : Int32))] h0 [] (QUC3_2 Z pz kp c0 c1 h0) := by
  refine CN.of_walk (plainFor_of_name pn2) O (fun _ q => nomatch q) ?_
  intro p e s m below meth c T0 W0 hx hby hml hoZ hnm hret hlk
  have H0 := W0.here; have hz0 := W0.zsize
  refine Goes.cast (ef8 m pz (0 : Int32) (2 : Int32)) ?_
  have lp := ltN Vp.lt
  refine G.iloadN H0 hx 1 (hb hby d11_0) rfl rfl ?_
  refine Wk.newP W0 hx (wd hw 15 rfl) 3 (hb hby d11_1) (by decide) 2 (by decide) rfl (by decide) (by decide) (by decide) ?_
  intro T1 h1 a1 k1 W1 E1 g1 V1 S1
  have H1 := W1.here; have z1 := E1.1; have gu1 := Nat.le_of_eq g1; have gt1 := Nat.le_of_eq g1.symm; have l1 := ltN V1.lt
  have V1 : Arv Z h1 a1 k1 .byte (2 : Int32) [(.int (0 : Int32)), (.int (0 : Int32))] (.int (0 : Int32)) := V1
  refine G.astoreN H1 hx 4 #[.val (.ref pz), .val (.int (0 : Int32)), .val (.int (2 : Int32)), .val (.ref a1), .unset, .unset] (hb hby d11_3) rfl rfl rfl ?_
  refine G.aloadN H1 hx 5 (hb hby d11_4) rfl rfl rfl ?_
  refine G.iloadN H1 hx 6 (hb hby d11_5) rfl rfl ?_
  refine G.aloadN H1 hx 7 (hb hby d11_6) rfl rfl rfl ?_
  refine G.iconst H1 hx 8 (0 : Int32) (hb hby d11_7) rfl rfl ?_
  refine G.iloadN H1 hx 9 (hb hby d11_8) rfl rfl ?_
  refine Wk.callS W1 hx hoZ (y := (⟨"java/lang/StringUTF16", "compress", "([CI[BII)I"⟩ : MethodName)) (wd hw 71 rfl) (wd hw 72 rfl) (wd hw 69 rfl) (wd hw 73 rfl) (by decide) (Wd := 0) (CN.back (rmUCm2 l Z a0 hw pz kp c0 c1 a1 k1 h1 W1.old (Vp.ext E1) (by omega) V1 (neA (by omega))) W1.warm (wd hw 73 rfl) (wd hw 69 rfl) (by decide) (by decide)) (by rw [hml]; rfl) [(.ref pz), (.int (0 : Int32)), (.ref a1), (.int (0 : Int32)), (.int (2 : Int32))] [] (lenOf pd4 rfl) rfl rfl (Nat.le_of_eq rfl) 12 (hb hby d11_9) rfl (by decide) (by decide) (hws1 (Or.inr (by omega)) safe0) ?_
  intro v2 T2 h2 W2 K2 Ch2 Q2
  have H2 := W2.here; have z2 := K2.1
  obtain rfl : _ = _ := Q2
  show Goes p e below (PostN s Z h0 [] (QUC3_2 Z pz kp c0 c1 h0) ({ frames := 3, cells := 2, slots := 6, locals := 70 } : Room).cells ({ frames := 3, cells := 2, slots := 6, locals := 70 } : Room).slots) (T2.setTop (mkF m 12 #[.val (.ref pz), .val (.int (0 : Int32)), .val (.int (2 : Int32)), .val (.ref a1), .unset, .unset] [(.int (if (255 : Int32) < c0 then (0 : Int32) else (if (255 : Int32) < c1 then (1 : Int32) else (2 : Int32))))]))
  by_cases e0 : (255 : Int32) < c0
  ·
    rw [if_pos e0]
    refine G.istoreX H2 hx 14 #[.val (.ref pz), .val (.int (0 : Int32)), .val (.int (2 : Int32)), .val (.ref a1), .val (.int (0 : Int32)), .unset] (hb hby d11_12) rfl rfl ?_
    refine G.iload H2 hx 16 (hb hby d11_14) rfl rfl ?_
    refine G.iloadN H2 hx 17 (hb hby d11_16) rfl rfl ?_
    refine G.icmpN H2 hx 20 (hb hby d11_17) (feq (by decide)).1 rfl ?_
    refine G.aloadN H2 hx 21 (hb hby d11_20) rfl rfl rfl ?_
    refine G.iloadN H2 hx 22 (hb hby d11_21) rfl rfl ?_
    refine G.iloadN H2 hx 23 (hb hby d11_22) rfl rfl ?_
    refine Wk.callS W2 hx hoZ (y := (⟨"java/lang/StringUTF16", "toBytes", "([CII)[B"⟩ : MethodName)) (wd hw 99 rfl) (wd hw 100 rfl) (wd hw 69 rfl) (wd hw 101 rfl) (by decide) (Wd := 0) (CN.back (rmUTb2 l Z a0 hw pz kp c0 c1 h2 W2.old hAD hHI hLO ((Vp.ext E1).keep K2 (ninS (neA (by omega)) nin0))) W2.warm (wd hw 101 rfl) (wd hw 69 rfl) (by decide) (by decide)) (by rw [hml]; rfl) [(.ref pz), (.int (0 : Int32)), (.int (2 : Int32))] [] (lenOf pd5 rfl) rfl rfl (Nat.le_of_eq rfl) 26 (hb hby d11_23) rfl (by decide) (by decide) (fun _ q => nomatch q) ?_
    intro v3 T3 h3 W3 K3 Ch3 Q3
    have H3 := W3.here; have z3 := K3.1
    obtain ⟨b3, k3, rfl, g3, V3⟩ := Q3; have l3 := ltN V3.lt
    show Goes p e below (PostN s Z h0 [] (QUC3_2 Z pz kp c0 c1 h0) ({ frames := 3, cells := 2, slots := 6, locals := 70 } : Room).cells ({ frames := 3, cells := 2, slots := 6, locals := 70 } : Room).slots) (T3.setTop (mkF m 26 #[.val (.ref pz), .val (.int (0 : Int32)), .val (.int (2 : Int32)), .val (.ref a1), .val (.int (0 : Int32)), .unset] [(.ref b3)]))
    refine G.astore H3 hx 28 #[.val (.ref pz), .val (.int (0 : Int32)), .val (.int (2 : Int32)), .val (.ref a1), .val (.int (0 : Int32)), .val (.ref b3)] (hb hby d11_26) rfl rfl rfl ?_
    refine G.aload H3 hx 30 (hb hby d11_28) rfl rfl rfl ?_
    refine G.iload H3 hx 32 (hb hby d11_30) rfl rfl ?_
    refine Wk.callS W3 hx hoZ (y := (⟨"java/lang/StringUTF16", "getChar", "([BI)C"⟩ : MethodName)) (wd hw 115 rfl) (wd hw 116 rfl) (wd hw 69 rfl) (wd hw 117 rfl) (by decide) (Wd := 0) (CN.back (rmUGc2_0 l Z a0 hw b3 k3 (OwnKit.i2b c0) (OwnKit.i2b (c0 >>> ((8 : Int32) &&& 31))) (OwnKit.i2b c1) (OwnKit.i2b (c1 >>> ((8 : Int32) &&& 31))) h3 W3.old hAD hHI hLO V3) W3.warm (wd hw 117 rfl) (wd hw 69 rfl) (by decide) (by decide)) (by rw [hml]; rfl) [(.ref b3), (.int (0 : Int32))] [] (lenOf pd6 rfl) rfl rfl (Nat.le_of_eq rfl) 35 (hb hby d11_32) rfl (by decide) (by decide) (fun _ q => nomatch q) ?_
    intro v4 T4 h4 W4 K4 Ch4 Q4
    have H4 := W4.here; have z4 := K4.1
    obtain ⟨rfl, eh4⟩ := Q4
    show Goes p e below (PostN s Z h0 [] (QUC3_2 Z pz kp c0 c1 h0) ({ frames := 3, cells := 2, slots := 6, locals := 70 } : Room).cells ({ frames := 3, cells := 2, slots := 6, locals := 70 } : Room).slots) (T4.setTop (mkF m 35 #[.val (.ref pz), .val (.int (0 : Int32)), .val (.int (2 : Int32)), .val (.ref a1), .val (.int (0 : Int32)), .val (.ref b3)] [(.int (OwnKit.i2c ((((OwnKit.i2b c0) &&& (255 : Int32)) <<< ((0 : Int32) &&& 31)) ||| (((OwnKit.i2b (c0 >>> ((8 : Int32) &&& 31))) &&& (255 : Int32)) <<< ((8 : Int32) &&& 31)))))]))
    rw [pair16 w0]
    show Goes p e below (PostN s Z h0 [] (QUC3_2 Z pz kp c0 c1 h0) ({ frames := 3, cells := 2, slots := 6, locals := 70 } : Room).cells ({ frames := 3, cells := 2, slots := 6, locals := 70 } : Room).slots) (T4.setTop (mkF m 35 #[.val (.ref pz), .val (.int (0 : Int32)), .val (.int (2 : Int32)), .val (.ref a1), .val (.int (0 : Int32)), .val (.ref b3)] [(.int c0)]))
    refine G.sipush H4 hx 38 (255 : Int32) (hb hby d11_35) rfl rfl ?_
    refine G.icmpY H4 hx 54 (hb hby d11_38) (tlt e0).2.2.1 (by decide) rfl ?_
    refine G.aload H4 hx 56 (hb hby d11_54) rfl rfl rfl ?_
    exact Wk.retA W4 hx (t := (.array .byte)) rfl rfl hret hlk (hb hby d11_56) (by decide) (by decide) ⟨_, _, rfl, by omega, (V3.keep K4 nin0)⟩
  ·
    by_cases e1 : (255 : Int32) < c1
    ·
      rw [if_neg e0, if_pos e1]
      refine G.istoreX H2 hx 14 #[.val (.ref pz), .val (.int (0 : Int32)), .val (.int (2 : Int32)), .val (.ref a1), .val (.int (1 : Int32)), .unset] (hb hby d11_12) rfl rfl ?_
      refine G.iload H2 hx 16 (hb hby d11_14) rfl rfl ?_
      refine G.iloadN H2 hx 17 (hb hby d11_16) rfl rfl ?_
      refine G.icmpN H2 hx 20 (hb hby d11_17) (feq (by decide)).1 rfl ?_
      refine G.aloadN H2 hx 21 (hb hby d11_20) rfl rfl rfl ?_
      refine G.iloadN H2 hx 22 (hb hby d11_21) rfl rfl ?_
      refine G.iloadN H2 hx 23 (hb hby d11_22) rfl rfl ?_
      refine Wk.callS W2 hx hoZ (y := (⟨"java/lang/StringUTF16", "toBytes", "([CII)[B"⟩ : MethodName)) (wd hw 99 rfl) (wd hw 100 rfl) (wd hw 69 rfl) (wd hw 101 rfl) (by decide) (Wd := 0) (CN.back (rmUTb2 l Z a0 hw pz kp c0 c1 h2 W2.old hAD hHI hLO ((Vp.ext E1).keep K2 (ninS (neA (by omega)) nin0))) W2.warm (wd hw 101 rfl) (wd hw 69 rfl) (by decide) (by decide)) (by rw [hml]; rfl) [(.ref pz), (.int (0 : Int32)), (.int (2 : Int32))] [] (lenOf pd5 rfl) rfl rfl (Nat.le_of_eq rfl) 26 (hb hby d11_23) rfl (by decide) (by decide) (fun _ q => nomatch q) ?_
      intro v5 T5 h5 W5 K5 Ch5 Q5
      have H5 := W5.here; have z5 := K5.1
      obtain ⟨b5, k5, rfl, g5, V5⟩ := Q5; have l5 := ltN V5.lt
      show Goes p e below (PostN s Z h0 [] (QUC3_2 Z pz kp c0 c1 h0) ({ frames := 3, cells := 2, slots := 6, locals := 70 } : Room).cells ({ frames := 3, cells := 2, slots := 6, locals := 70 } : Room).slots) (T5.setTop (mkF m 26 #[.val (.ref pz), .val (.int (0 : Int32)), .val (.int (2 : Int32)), .val (.ref a1), .val (.int (1 : Int32)), .unset] [(.ref b5)]))
      refine G.astore H5 hx 28 #[.val (.ref pz), .val (.int (0 : Int32)), .val (.int (2 : Int32)), .val (.ref a1), .val (.int (1 : Int32)), .val (.ref b5)] (hb hby d11_26) rfl rfl rfl ?_
      refine G.aload H5 hx 30 (hb hby d11_28) rfl rfl rfl ?_
      refine G.iload H5 hx 32 (hb hby d11_30) rfl rfl ?_
      refine Wk.callS W5 hx hoZ (y := (⟨"java/lang/StringUTF16", "getChar", "([BI)C"⟩ : MethodName)) (wd hw 115 rfl) (wd hw 116 rfl) (wd hw 69 rfl) (wd hw 117 rfl) (by decide) (Wd := 0) (CN.back (rmUGc2_1 l Z a0 hw b5 k5 (OwnKit.i2b c0) (OwnKit.i2b (c0 >>> ((8 : Int32) &&& 31))) (OwnKit.i2b c1) (OwnKit.i2b (c1 >>> ((8 : Int32) &&& 31))) h5 W5.old hAD hHI hLO V5) W5.warm (wd hw 117 rfl) (wd hw 69 rfl) (by decide) (by decide)) (by rw [hml]; rfl) [(.ref b5), (.int (1 : Int32))] [] (lenOf pd6 rfl) rfl rfl (Nat.le_of_eq rfl) 35 (hb hby d11_32) rfl (by decide) (by decide) (fun _ q => nomatch q) ?_
      intro v6 T6 h6 W6 K6 Ch6 Q6
      have H6 := W6.here; have z6 := K6.1
      obtain ⟨rfl, eh6⟩ := Q6
      show Goes p e below (PostN s Z h0 [] (QUC3_2 Z pz kp c0 c1 h0) ({ frames := 3, cells := 2, slots := 6, locals := 70 } : Room).cells ({ frames := 3, cells := 2, slots := 6, locals := 70 } : Room).slots) (T6.setTop (mkF m 35 #[.val (.ref pz), .val (.int (0 : Int32)), .val (.int (2 : Int32)), .val (.ref a1), .val (.int (1 : Int32)), .val (.ref b5)] [(.int (OwnKit.i2c ((((OwnKit.i2b c1) &&& (255 : Int32)) <<< ((0 : Int32) &&& 31)) ||| (((OwnKit.i2b (c1 >>> ((8 : Int32) &&& 31))) &&& (255 : Int32)) <<< ((8 : Int32) &&& 31)))))]))
      rw [pair16 w1]
      show Goes p e below (PostN s Z h0 [] (QUC3_2 Z pz kp c0 c1 h0) ({ frames := 3, cells := 2, slots := 6, locals := 70 } : Room).cells ({ frames := 3, cells := 2, slots := 6, locals := 70 } : Room).slots) (T6.setTop (mkF m 35 #[.val (.ref pz), .val (.int (0 : Int32)), .val (.int (2 : Int32)), .val (.ref a1), .val (.int (1 : Int32)), .val (.ref b5)] [(.int c1)]))
      refine G.sipush H6 hx 38 (255 : Int32) (hb hby d11_35) rfl rfl ?_
      refine G.icmpY H6 hx 54 (hb hby d11_38) (tlt e1).2.2.1 (by decide) rfl ?_
      refine G.aload H6 hx 56 (hb hby d11_54) rfl rfl rfl ?_
      exact Wk.retA W6 hx (t := (.array .byte)) rfl rfl hret hlk (hb hby d11_56) (by decide) (by decide) ⟨_, _, rfl, by omega, (V5.keep K6 nin0)⟩
    ·
      exact absurd ⟨e0, e1⟩ hall
def QUCl2 (Z : State) (b : Addr) (kb : ClassId) (u0 : Int32) (u1 : Int32) (u2 : Int32) (u3 : Int32) (h0 : Heap) : Option Value → Heap → Prop := fun v h => v = some (.int 1) ∧ h = h0
set_option maxRecDepth 65536 in
set_option maxHeartbeats 40000000 in
theorem rmUCl2 (l : Launch) (Z : State) (a0 : Array Value) (hw : ∀ d ∈ tables_1, d.before a0 Z = true) (b : Addr) (kb : ClassId) (u0 : Int32) (u1 : Int32) (u2 : Int32) (u3 : Int32) (h0 : Heap) (O : Ext Z.heap h0) (Vb : Arv Z h0 b kb .byte 4 [(.int u0), (.int u1), (.int u2), (.int u3)] (.int 0)) :
    CN [] l Z (⟨"java/lang/StringUTF16", "coderFromArrayLen", "([BI)B"⟩ : MethodName) jdk_52_method_15_code 2 (Option.some Jvm.ClassFile.FieldType.byte) ({ frames := 0, cells := 0, slots := 0, locals := 0 } : Room) #[(.ref b), (.int (2 : Int32))] h0 [] (QUCl2 Z b kb u0 u1 u2 u3 h0) := by
  refine CN.of_walk (plainFor_of_name pn2) O (fun _ q => nomatch q) ?_
  intro p e s m below meth c T0 W0 hx hby hml hoZ hnm hret hlk
  have H0 := W0.here; have hz0 := W0.zsize
  refine Goes.cast (ef4 m b (2 : Int32)) ?_
  refine G.iloadN H0 hx 1 (hb hby d13_0) rfl rfl ?_
  refine G.aloadN H0 hx 2 (hb hby d13_1) rfl rfl rfl ?_
  refine Wk.arraylength W0 hx Vb 3 (hb hby d13_2) rfl ?_
  refine G.isubF H0 hx 4 (-2 : Int32) (hb hby d13_3) (by decide) rfl ?_
  refine G.bipush H0 hx 6 (31 : Int32) (hb hby d13_4) rfl rfl ?_
  refine G.iushrF H0 hx 7 (1 : Int32) (hb hby d13_6) (by decide) rfl ?_
  refine G.i2b H0 hx 8 (hb hby d13_7) rfl ?_
  exact Wk.retN W0 hx (1 : Int32) (t := .byte) (by decide) (by simp) hret hlk (hb hby d13_8) (by decide) (by decide) ⟨rfl, rfl⟩
def QUN4_2 (Z : State) (cz : Int32) (a : Addr) (pz : Addr) (kp : ClassId) (c0 : Int32) (c1 : Int32) (h0 : Heap) : Option Value → Heap → Prop := fun v h => v = none ∧ Exa Z h a "java/lang/String" ∧ Fld Z h a "java/lang/String" "coder" "B" (.int 1) ∧ ∃ (b : Addr) (k : ClassId), Fld Z h a "java/lang/String" "value" "[B" (.ref b) ∧ Arv Z h b k .byte 4 [(.int (OwnKit.i2b c0)), (.int (OwnKit.i2b (c0 >>> ((8 : Int32) &&& 31)))), (.int (OwnKit.i2b c1)), (.int (OwnKit.i2b (c1 >>> ((8 : Int32) &&& 31))))] (.int 0)
set_option maxRecDepth 65536 in
set_option maxHeartbeats 40000000 in
theorem rmUN4_2 (l : Launch) (Z : State) (a0 : Array Value) (hw : ∀ d ∈ tables_1, d.before a0 Z = true) (cz : Int32) (a : Addr) (pz : Addr) (kp : ClassId) (c0 : Int32) (c1 : Int32) (h0 : Heap) (O : Ext Z.heap h0) (hCS : Sta Z Z.heap "java/lang/String" "COMPACT_STRINGS" "Z" (.int cz)) (hcz : ¬ cz = 0) (hAD : Sta Z Z.heap "java/lang/StringUTF16" "$assertionsDisabled" "Z" (.int 1)) (hHI : Sta Z Z.heap "java/lang/StringUTF16" "HI_BYTE_SHIFT" "I" (.int 0)) (hLO : Sta Z Z.heap "java/lang/StringUTF16" "LO_BYTE_SHIFT" "I" (.int 8)) (w0 : C16 c0) (w1 : C16 c1) (hall : ¬ (¬ (255 : Int32) < c0 ∧ ¬ (255 : Int32) < c1)) (Vp : Arv Z h0 pz kp .char 2 [(.int c0), (.int c1)] (.int 0)) (gz_a : Z.heap.size ≤ a) (Ea : Exa Z h0 a "java/lang/String") (Fv : Fld Z h0 a "java/lang/String" "value" "[B" .null) (Fc : Fld Z h0 a "java/lang/String" "coder" "B" (.int 0)) :
    CN [] l Z (⟨"java/lang/String", "<init>", "([CIILjava/lang/Void;)V"⟩ : MethodName) jdk_42_method_149_code 6 (Option.none : Option Jvm.ClassFile.FieldType) ({ frames := 4, cells := 2, slots := 6, locals := 100 } : Room) #[(.ref a), (.ref pz), (.int (0 : Int32)), (.int (2 : Int32)), .null] h0 [a] (QUN4_2 Z cz a pz kp c0 c1 h0) := by
  refine CN.of_walk (plainFor_of_name pn0) O (ala gz_a ala0) ?_
  intro p e s m below meth c T0 W0 hx hby hml hoZ hnm hret hlk
  have H0 := W0.here; have hz0 := W0.zsize
  refine Goes.cast (ef0 m a pz (0 : Int32) (2 : Int32)) ?_
  have lp := ltN Vp.lt
  have la := ltN Ea.lt
  refine G.aloadN H0 hx 1 (hb hby d2_0) rfl rfl rfl ?_
  refine Wk.initO W0 hx hoZ (wd hw 11 rfl) (wd hw 12 rfl) (wd hw 13 rfl) (by rw [hml]; rfl) 4 (hb hby d2_1) rfl (by decide) 0 (Nat.le_of_eq rfl) (by decide) ?_
  intro T1 W1; have H1 := W1.here
  refine G.iloadN H1 hx 5 (hb hby d2_4) rfl rfl ?_
  refine G.ifY H1 hx 27 (hb hby d2_5) (zne (by decide)).2 (by decide) rfl ?_
  refine Wk.getS W1 hx hoZ (wd hw 65 rfl) Via.refl (hCS.ext W1.old) 30 (hb hby d2_27) rfl ?_
  intro T2 W2; have H2 := W2.here
  refine G.ifN H2 hx 33 (hb hby d2_30) (zne hcz).1 rfl ?_
  refine G.aloadN H2 hx 34 (hb hby d2_33) rfl rfl rfl ?_
  refine G.iloadN H2 hx 35 (hb hby d2_34) rfl rfl ?_
  refine G.iloadN H2 hx 36 (hb hby d2_35) rfl rfl ?_
  refine Wk.callS W2 hx hoZ (y := (⟨"java/lang/StringUTF16", "compress", "([CII)[B"⟩ : MethodName)) (wd hw 67 rfl) (wd hw 68 rfl) (wd hw 69 rfl) (wd hw 70 rfl) (by decide) (Wd := 0) (CN.back (rmUC3_2 l Z a0 hw pz kp c0 c1 h0 W2.old hAD hHI hLO w0 w1 hall Vp) W2.warm (wd hw 70 rfl) (wd hw 69 rfl) (by decide) (by decide)) (by rw [hml]; rfl) [(.ref pz), (.int (0 : Int32)), (.int (2 : Int32))] [] (lenOf pd5 rfl) rfl rfl (Nat.le_of_eq rfl) 39 (hb hby d2_36) rfl (by decide) (by decide) (fun _ q => nomatch q) ?_
  intro v3 T3 h3 W3 K3 Ch3 Q3
  have H3 := W3.here; have z3 := K3.1
  obtain ⟨b3, k3, rfl, g3, V3⟩ := Q3; have l3 := ltN V3.lt
  show Goes p e below (PostN s Z h0 [a] (QUN4_2 Z cz a pz kp c0 c1 h0) ({ frames := 4, cells := 2, slots := 6, locals := 100 } : Room).cells ({ frames := 4, cells := 2, slots := 6, locals := 100 } : Room).slots) (T3.setTop (mkF m 39 #[.val (.ref a), .val (.ref pz), .val (.int (0 : Int32)), .val (.int (2 : Int32)), .val .null, .unset] [(.ref b3)]))
  refine G.astore H3 hx 41 #[.val (.ref a), .val (.ref pz), .val (.int (0 : Int32)), .val (.int (2 : Int32)), .val .null, .val (.ref b3)] (hb hby d2_39) rfl rfl rfl ?_
  refine G.aloadN H3 hx 42 (hb hby d2_41) rfl rfl rfl ?_
  refine G.aload H3 hx 44 (hb hby d2_42) rfl rfl rfl ?_
  refine G.iloadN H3 hx 45 (hb hby d2_44) rfl rfl ?_
  refine Wk.callS W3 hx hoZ (y := (⟨"java/lang/StringUTF16", "coderFromArrayLen", "([BI)B"⟩ : MethodName)) (wd hw 74 rfl) (wd hw 75 rfl) (wd hw 69 rfl) (wd hw 76 rfl) (by decide) (Wd := 1) (CN.back (rmUCl2 l Z a0 hw b3 k3 (OwnKit.i2b c0) (OwnKit.i2b (c0 >>> ((8 : Int32) &&& 31))) (OwnKit.i2b c1) (OwnKit.i2b (c1 >>> ((8 : Int32) &&& 31))) h3 W3.old V3) W3.warm (wd hw 76 rfl) (wd hw 69 rfl) (by decide) (by decide)) (by rw [hml]; rfl) [(.ref b3), (.int (2 : Int32))] [(.ref a)] (lenOf pd7 rfl) rfl rfl (Nat.le_of_eq rfl) 48 (hb hby d2_45) rfl (by decide) (by decide) (fun _ q => nomatch q) ?_
  intro v4 T4 h4 W4 K4 Ch4 Q4
  have H4 := W4.here; have z4 := K4.1
  obtain ⟨rfl, eh4⟩ := Q4
  show Goes p e below (PostN s Z h0 [a] (QUN4_2 Z cz a pz kp c0 c1 h0) ({ frames := 4, cells := 2, slots := 6, locals := 100 } : Room).cells ({ frames := 4, cells := 2, slots := 6, locals := 100 } : Room).slots) (T4.setTop (mkF m 48 #[.val (.ref a), .val (.ref pz), .val (.int (0 : Int32)), .val (.int (2 : Int32)), .val .null, .val (.ref b3)] [(.int (1 : Int32)), (.ref a)]))
  refine Wk.putF W4 hx hoZ (wd hw 21 rfl) Via.refl (.int (1 : Int32)) ((Fc.keep K3 nin0).keep K4 nin0) ((Ea.keep K3).keep K4) (Or.inr ⟨(wd hw 17 rfl), rfl, hnm⟩) (wd hw 2 rfl) (ty := .byte) (by decide) rfl rfl (Or.inl (by simp)) safe0 51 (hb hby d2_48) rfl ?_
  intro T5 h5 W5 R5 Ch5; have H5 := W5.here; have z5 := R5.size
  have F5 := (((Fc.keep K3 nin0).keep K4 nin0)).same R5
  refine G.aloadN H5 hx 52 (hb hby d2_51) rfl rfl rfl ?_
  refine G.aload H5 hx 54 (hb hby d2_52) rfl rfl rfl ?_
  refine Wk.putF W5 hx hoZ (wd hw 20 rfl) Via.refl (.ref b3) (((Fv.keep K3 nin0).keep K4 nin0).other R5 (Or.inr (slot_ne (Or.inr (wd hw 16 rfl)) (Or.inr (wd hw 17 rfl)) (by decide) (t := (.array .byte)) (t' := .byte) (by decide) (by decide)))) (((Ea.keep K3).keep K4).wr R5) (Or.inr ⟨(wd hw 16 rfl), rfl, hnm⟩) (wd hw 2 rfl) (ty := (.array .byte)) (by decide) rfl rfl (Or.inl (by simp)) safe0 57 (hb hby d2_54) rfl ?_
  intro T6 h6 W6 R6 Ch6; have H6 := W6.here; have z6 := R6.size
  have F6 := ((((Fv.keep K3 nin0).keep K4 nin0).other R5 (Or.inr (slot_ne (Or.inr (wd hw 16 rfl)) (Or.inr (wd hw 17 rfl)) (by decide) (t := (.array .byte)) (t' := .byte) (by decide) (by decide))))).same R6
  exact Wk.retV W6 hx hret hlk (hb hby d2_57) (by decide) (by decide) ⟨rfl, ((((Ea.keep K3).keep K4).wr R5).wr R6), (F5.other R6 (Or.inr (slot_ne (Or.inr (wd hw 17 rfl)) (Or.inr (wd hw 16 rfl)) (by decide) (t := .byte) (t' := (.array .byte)) (by decide) (by decide)))), _, _, F6, (((V3.keep K4 nin0).other R5 (neA (by omega))).other R6 (neA (by omega)))⟩
def QUN1_2 (Z : State) (cz : Int32) (a : Addr) (pz : Addr) (kp : ClassId) (c0 : Int32) (c1 : Int32) (h0 : Heap) : Option Value → Heap → Prop := fun v h => v = none ∧ Exa Z h a "java/lang/String" ∧ Fld Z h a "java/lang/String" "coder" "B" (.int 1) ∧ ∃ (b : Addr) (k : ClassId), Fld Z h a "java/lang/String" "value" "[B" (.ref b) ∧ Arv Z h b k .byte 4 [(.int (OwnKit.i2b c0)), (.int (OwnKit.i2b (c0 >>> ((8 : Int32) &&& 31)))), (.int (OwnKit.i2b c1)), (.int (OwnKit.i2b (c1 >>> ((8 : Int32) &&& 31))))] (.int 0)
set_option maxRecDepth 65536 in
set_option maxHeartbeats 40000000 in
theorem rmUN1_2 (l : Launch) (Z : State) (a0 : Array Value) (hw : ∀ d ∈ tables_1, d.before a0 Z = true) (cz : Int32) (a : Addr) (pz : Addr) (kp : ClassId) (c0 : Int32) (c1 : Int32) (h0 : Heap) (O : Ext Z.heap h0) (hCS : Sta Z Z.heap "java/lang/String" "COMPACT_STRINGS" "Z" (.int cz)) (hcz : ¬ cz = 0) (hAD : Sta Z Z.heap "java/lang/StringUTF16" "$assertionsDisabled" "Z" (.int 1)) (hHI : Sta Z Z.heap "java/lang/StringUTF16" "HI_BYTE_SHIFT" "I" (.int 0)) (hLO : Sta Z Z.heap "java/lang/StringUTF16" "LO_BYTE_SHIFT" "I" (.int 8)) (w0 : C16 c0) (w1 : C16 c1) (hall : ¬ (¬ (255 : Int32) < c0 ∧ ¬ (255 : Int32) < c1)) (Vp : Arv Z h0 pz kp .char 2 [(.int c0), (.int c1)] (.int 0)) (gz_a : Z.heap.size ≤ a) (Ea : Exa Z h0 a "java/lang/String") (Fv : Fld Z h0 a "java/lang/String" "value" "[B" .null) (Fc : Fld Z h0 a "java/lang/String" "coder" "B" (.int 0)) :
    CN [] l Z (⟨"java/lang/String", "<init>", "([C)V"⟩ : MethodName) jdk_42_method_3_code 2 (Option.none : Option Jvm.ClassFile.FieldType) ({ frames := 5, cells := 2, slots := 6, locals := 125 } : Room) #[(.ref a), (.ref pz)] h0 [a] (QUN1_2 Z cz a pz kp c0 c1 h0) := by
  refine CN.of_walk (plainFor_of_name pn0) O (ala gz_a ala0) ?_
  intro p e s m below meth c T0 W0 hx hby hml hoZ hnm hret hlk
  have H0 := W0.here; have hz0 := W0.zsize
  refine Goes.cast (ef1 m a pz) ?_
  have lp := ltN Vp.lt
  have la := ltN Ea.lt
  refine G.aloadN H0 hx 1 (hb hby d1_0) rfl rfl rfl ?_
  refine G.aloadN H0 hx 2 (hb hby d1_1) rfl rfl rfl ?_
  refine G.iconst H0 hx 3 (0 : Int32) (hb hby d1_2) rfl rfl ?_
  refine G.aloadN H0 hx 4 (hb hby d1_3) rfl rfl rfl ?_
  refine Wk.arraylength W0 hx Vp 5 (hb hby d1_4) rfl ?_
  refine G.aconstNull H0 hx 6 (hb hby d1_5) rfl ?_
  refine Wk.special W0 hx hoZ (y := (⟨"java/lang/String", "<init>", "([CIILjava/lang/Void;)V"⟩ : MethodName)) rfl (wd hw 7 rfl) (wd hw 8 rfl) (wd hw 10 rfl) (by decide) (Wd := 0) (CN.back (rmUN4_2 l Z a0 hw cz a pz kp c0 c1 h0 W0.old hCS hcz hAD hHI hLO w0 w1 hall Vp (by omega) Ea Fv Fc) W0.warm (wd hw 10 rfl) (wd hw 3 rfl) (by decide) (by decide)) a (by rw [hml]; rfl) [(.ref pz), (.int (0 : Int32)), (.int (2 : Int32)), .null] [] (lenOf pd0 rfl) rfl rfl (Nat.le_of_eq rfl) 9 (hb hby d1_6) rfl (by decide) (by decide) (hws1 (Or.inl (by simp)) safe0) ?_
  intro v1 T1 h1 W1 K1 Ch1 Q1
  have H1 := W1.here; have z1 := K1.1
  obtain ⟨rfl, X1, F1c, b1, k1, F1v, V1⟩ := Q1; have l1 := ltN V1.lt
  show Goes p e below (PostN s Z h0 [a] (QUN1_2 Z cz a pz kp c0 c1 h0) ({ frames := 5, cells := 2, slots := 6, locals := 125 } : Room).cells ({ frames := 5, cells := 2, slots := 6, locals := 125 } : Room).slots) (T1.setTop (mkF m 9 #[.val (.ref a), .val (.ref pz)] []))
  exact Wk.retV W1 hx hret hlk (hb hby d1_9) (by decide) (by decide) ⟨rfl, X1, F1c, _, _, F1v, V1⟩
def QUSl2 (Z : State) (cz : Int32) (a : Addr) (b : Addr) (kb : ClassId) (c0 : Int32) (c1 : Int32) (h0 : Heap) : Option Value → Heap → Prop := fun v h => v = some (.int 2) ∧ h = h0
set_option maxRecDepth 65536 in
set_option maxHeartbeats 40000000 in
theorem rmUSl2 (l : Launch) (Z : State) (a0 : Array Value) (hw : ∀ d ∈ tables_1, d.before a0 Z = true) (cz : Int32) (a : Addr) (b : Addr) (kb : ClassId) (c0 : Int32) (c1 : Int32) (h0 : Heap) (O : Ext Z.heap h0) (hCS : Sta Z Z.heap "java/lang/String" "COMPACT_STRINGS" "Z" (.int cz)) (hcz : ¬ cz = 0) (Ea : Exa Z h0 a "java/lang/String") (Fc : Fld Z h0 a "java/lang/String" "coder" "B" (.int 1)) (Fv : Fld Z h0 a "java/lang/String" "value" "[B" (.ref b)) (Vb : Arv Z h0 b kb .byte 4 [(.int (OwnKit.i2b c0)), (.int (OwnKit.i2b (c0 >>> ((8 : Int32) &&& 31)))), (.int (OwnKit.i2b c1)), (.int (OwnKit.i2b (c1 >>> ((8 : Int32) &&& 31))))] (.int 0)) :
    CN [] l Z (⟨"java/lang/String", "length", "()I"⟩ : MethodName) jdk_42_method_54_code 1 (Option.some Jvm.ClassFile.FieldType.int) ({ frames := 1, cells := 0, slots := 0, locals := 14 } : Room) #[(.ref a)] h0 [] (QUSl2 Z cz a b kb c0 c1 h0) := by
  refine CN.of_walk (plainFor_of_name pn0) O (fun _ q => nomatch q) ?_
  intro p e s m below meth c T0 W0 hx hby hml hoZ hnm hret hlk
  have H0 := W0.here; have hz0 := W0.zsize
  refine Goes.cast (ef2 m a) ?_
  refine G.aloadN H0 hx 1 (hb hby d9_0) rfl rfl rfl ?_
  refine Wk.getF W0 hx hoZ (host := "") (Or.inl (wd hw 20 rfl)) Via.refl Fv 4 (hb hby d9_1) rfl ?_
  intro T1 W1; have H1 := W1.here
  refine Wk.arraylength W1 hx Vb 5 (hb hby d9_4) rfl ?_
  refine G.aloadN H1 hx 6 (hb hby d9_5) rfl rfl rfl ?_
  refine Wk.virtual W1 hx hoZ (y := (⟨"java/lang/String", "coder", "()B"⟩ : MethodName)) (z := (⟨"java/lang/String", "coder", "()B"⟩ : MethodName)) (wd hw 60 rfl) (wd hw 61 rfl) (wd hw 63 rfl) (wd hw 62 rfl) (W1.nf (wd hw 63 rfl)) (by decide) (Wd := 1) (CN.back (rmCodW l Z a0 hw cz a h0 W1.old hCS hcz Ea Fc) W1.warm (wd hw 64 rfl) (wd hw 3 rfl) (by decide) (by decide)) Ea (by rw [hml]; rfl) [] [(.int (4 : Int32))] (lenOf pd9 rfl) rfl rfl (Nat.le_of_eq rfl) 9 (hb hby d9_6) rfl (by decide) (by decide) (fun _ q => nomatch q) ?_
  intro v2 T2 h2 W2 K2 Ch2 Q2
  have H2 := W2.here; have z2 := K2.1
  obtain ⟨rfl, eh2⟩ := Q2
  show Goes p e below (PostN s Z h0 [] (QUSl2 Z cz a b kb c0 c1 h0) ({ frames := 1, cells := 0, slots := 0, locals := 14 } : Room).cells ({ frames := 1, cells := 0, slots := 0, locals := 14 } : Room).slots) (T2.setTop (mkF m 9 #[.val (.ref a)] [(.int (1 : Int32)), (.int (4 : Int32))]))
  refine G.ishrF H2 hx 10 (2 : Int32) (hb hby d9_9) (by decide) rfl ?_
  exact Wk.retI W2 hx hret hlk (hb hby d9_10) (by decide) (by decide) ⟨rfl, (by rw [eh2])⟩
def QUCk2_0 (Z : State) (fm : Value) (b : Addr) (kb : ClassId) (c0 : Int32) (c1 : Int32) (h0 : Heap) : Option Value → Heap → Prop := fun v h => v = none ∧ h = h0
set_option maxRecDepth 65536 in
set_option maxHeartbeats 40000000 in
theorem rmUCk2_0 (l : Launch) (Z : State) (a0 : Array Value) (hw : ∀ d ∈ tables_1, d.before a0 Z = true) (fm : Value) (b : Addr) (kb : ClassId) (c0 : Int32) (c1 : Int32) (h0 : Heap) (O : Ext Z.heap h0) (hFM : Sta Z Z.heap "jdk/internal/util/Preconditions" "SIOOBE_FORMATTER" "Ljava/util/function/BiFunction;" fm) (hfm : fm.isRef = true) (Vb : Arv Z h0 b kb .byte 4 [(.int (OwnKit.i2b c0)), (.int (OwnKit.i2b (c0 >>> ((8 : Int32) &&& 31)))), (.int (OwnKit.i2b c1)), (.int (OwnKit.i2b (c1 >>> ((8 : Int32) &&& 31))))] (.int 0)) :
    CN [] l Z (⟨"java/lang/StringUTF16", "checkIndex", "(I[B)V"⟩ : MethodName) jdk_52_method_91_code 2 (Option.none : Option Jvm.ClassFile.FieldType) ({ frames := 2, cells := 0, slots := 0, locals := 40 } : Room) #[(.int (0 : Int32)), (.ref b)] h0 [] (QUCk2_0 Z fm b kb c0 c1 h0) := by
  refine CN.of_walk (plainFor_of_name pn2) O (fun _ q => nomatch q) ?_
  intro p e s m below meth c T0 W0 hx hby hml hoZ hnm hret hlk
  have H0 := W0.here; have hz0 := W0.zsize
  refine Goes.cast (ef11 m (0 : Int32) b) ?_
  refine G.iloadN H0 hx 1 (hb hby d25_0) rfl rfl ?_
  refine G.aloadN H0 hx 2 (hb hby d25_1) rfl rfl rfl ?_
  refine Wk.callS W0 hx hoZ (y := (⟨"java/lang/StringUTF16", "length", "([B)I"⟩ : MethodName)) (wd hw 124 rfl) (wd hw 125 rfl) (wd hw 69 rfl) (wd hw 126 rfl) (by decide) (Wd := 1) (CN.back (rmULn2 l Z a0 hw b kb (OwnKit.i2b c0) (OwnKit.i2b (c0 >>> ((8 : Int32) &&& 31))) (OwnKit.i2b c1) (OwnKit.i2b (c1 >>> ((8 : Int32) &&& 31))) h0 W0.old Vb) W0.warm (wd hw 126 rfl) (wd hw 69 rfl) (by decide) (by decide)) (by rw [hml]; rfl) [(.ref b)] [(.int (0 : Int32))] (lenOf pd10 rfl) rfl rfl (Nat.le_of_eq rfl) 5 (hb hby d25_2) rfl (by decide) (by decide) (fun _ q => nomatch q) ?_
  intro v1 T1 h1 W1 K1 Ch1 Q1
  have H1 := W1.here; have z1 := K1.1
  obtain ⟨rfl, eh1⟩ := Q1
  show Goes p e below (PostN s Z h0 [] (QUCk2_0 Z fm b kb c0 c1 h0) ({ frames := 2, cells := 0, slots := 0, locals := 40 } : Room).cells ({ frames := 2, cells := 0, slots := 0, locals := 40 } : Room).slots) (T1.setTop (mkF m 5 #[.val (.int (0 : Int32)), .val (.ref b)] [(.int (2 : Int32)), (.int (0 : Int32))]))
  refine Wk.callS W1 hx hoZ (y := (⟨"java/lang/String", "checkIndex", "(II)V"⟩ : MethodName)) (wd hw 127 rfl) (wd hw 92 rfl) (wd hw 3 rfl) (wd hw 93 rfl) (by decide) (Wd := 0) (CN.back (rmSCk l Z a0 hw fm (0 : Int32) (2 : Int32) h1 W1.old hFM hfm (by decide) (by decide)) W1.warm (wd hw 93 rfl) (wd hw 3 rfl) (by decide) (by decide)) (by rw [hml]; rfl) [(.int (0 : Int32)), (.int (2 : Int32))] [] (lenOf pd11 rfl) rfl rfl (Nat.le_of_eq rfl) 8 (hb hby d25_5) rfl (by decide) (by decide) (fun _ q => nomatch q) ?_
  intro v2 T2 h2 W2 K2 Ch2 Q2
  have H2 := W2.here; have z2 := K2.1
  obtain ⟨rfl, eh2⟩ := Q2
  show Goes p e below (PostN s Z h0 [] (QUCk2_0 Z fm b kb c0 c1 h0) ({ frames := 2, cells := 0, slots := 0, locals := 40 } : Room).cells ({ frames := 2, cells := 0, slots := 0, locals := 40 } : Room).slots) (T2.setTop (mkF m 8 #[.val (.int (0 : Int32)), .val (.ref b)] []))
  exact Wk.retV W2 hx hret hlk (hb hby d25_8) (by decide) (by decide) ⟨rfl, (by rw [eh2, eh1])⟩
def QUCh2_0 (Z : State) (fm : Value) (b : Addr) (kb : ClassId) (c0 : Int32) (c1 : Int32) (h0 : Heap) : Option Value → Heap → Prop := fun v h => v = some (.int c0) ∧ h = h0
set_option maxRecDepth 65536 in
set_option maxHeartbeats 40000000 in
theorem rmUCh2_0 (l : Launch) (Z : State) (a0 : Array Value) (hw : ∀ d ∈ tables_1, d.before a0 Z = true) (fm : Value) (b : Addr) (kb : ClassId) (c0 : Int32) (c1 : Int32) (h0 : Heap) (O : Ext Z.heap h0) (hAD : Sta Z Z.heap "java/lang/StringUTF16" "$assertionsDisabled" "Z" (.int 1)) (hHI : Sta Z Z.heap "java/lang/StringUTF16" "HI_BYTE_SHIFT" "I" (.int 0)) (hLO : Sta Z Z.heap "java/lang/StringUTF16" "LO_BYTE_SHIFT" "I" (.int 8)) (w0 : C16 c0) (w1 : C16 c1) (hFM : Sta Z Z.heap "jdk/internal/util/Preconditions" "SIOOBE_FORMATTER" "Ljava/util/function/BiFunction;" fm) (hfm : fm.isRef = true) (Vb : Arv Z h0 b kb .byte 4 [(.int (OwnKit.i2b c0)), (.int (OwnKit.i2b (c0 >>> ((8 : Int32) &&& 31)))), (.int (OwnKit.i2b c1)), (.int (OwnKit.i2b (c1 >>> ((8 : Int32) &&& 31))))] (.int 0)) :
    CN [] l Z (⟨"java/lang/StringUTF16", "charAt", "([BI)C"⟩ : MethodName) jdk_52_method_83_code 2 (Option.some Jvm.ClassFile.FieldType.char) ({ frames := 3, cells := 0, slots := 0, locals := 60 } : Room) #[(.ref b), (.int (0 : Int32))] h0 [] (QUCh2_0 Z fm b kb c0 c1 h0) := by
  refine CN.of_walk (plainFor_of_name pn2) O (fun _ q => nomatch q) ?_
  intro p e s m below meth c T0 W0 hx hby hml hoZ hnm hret hlk
  have H0 := W0.here; have hz0 := W0.zsize
  refine Goes.cast (ef4 m b (0 : Int32)) ?_
  refine G.iloadN H0 hx 1 (hb hby d24_0) rfl rfl ?_
  refine G.aloadN H0 hx 2 (hb hby d24_1) rfl rfl rfl ?_
  refine Wk.callS W0 hx hoZ (y := (⟨"java/lang/StringUTF16", "checkIndex", "(I[B)V"⟩ : MethodName)) (wd hw 121 rfl) (wd hw 122 rfl) (wd hw 69 rfl) (wd hw 123 rfl) (by decide) (Wd := 0) (CN.back (rmUCk2_0 l Z a0 hw fm b kb c0 c1 h0 W0.old hFM hfm Vb) W0.warm (wd hw 123 rfl) (wd hw 69 rfl) (by decide) (by decide)) (by rw [hml]; rfl) [(.int (0 : Int32)), (.ref b)] [] (lenOf pd12 rfl) rfl rfl (Nat.le_of_eq rfl) 5 (hb hby d24_2) rfl (by decide) (by decide) (fun _ q => nomatch q) ?_
  intro v1 T1 h1 W1 K1 Ch1 Q1
  have H1 := W1.here; have z1 := K1.1
  obtain ⟨rfl, eh1⟩ := Q1
  show Goes p e below (PostN s Z h0 [] (QUCh2_0 Z fm b kb c0 c1 h0) ({ frames := 3, cells := 0, slots := 0, locals := 60 } : Room).cells ({ frames := 3, cells := 0, slots := 0, locals := 60 } : Room).slots) (T1.setTop (mkF m 5 #[.val (.ref b), .val (.int (0 : Int32))] []))
  refine G.aloadN H1 hx 6 (hb hby d24_5) rfl rfl rfl ?_
  refine G.iloadN H1 hx 7 (hb hby d24_6) rfl rfl ?_
  refine Wk.callS W1 hx hoZ (y := (⟨"java/lang/StringUTF16", "getChar", "([BI)C"⟩ : MethodName)) (wd hw 115 rfl) (wd hw 116 rfl) (wd hw 69 rfl) (wd hw 117 rfl) (by decide) (Wd := 0) (CN.back (rmUGc2_0 l Z a0 hw b kb (OwnKit.i2b c0) (OwnKit.i2b (c0 >>> ((8 : Int32) &&& 31))) (OwnKit.i2b c1) (OwnKit.i2b (c1 >>> ((8 : Int32) &&& 31))) h1 W1.old hAD hHI hLO (Vb.keep K1 nin0)) W1.warm (wd hw 117 rfl) (wd hw 69 rfl) (by decide) (by decide)) (by rw [hml]; rfl) [(.ref b), (.int (0 : Int32))] [] (lenOf pd6 rfl) rfl rfl (Nat.le_of_eq rfl) 10 (hb hby d24_7) rfl (by decide) (by decide) (fun _ q => nomatch q) ?_
  intro v2 T2 h2 W2 K2 Ch2 Q2
  have H2 := W2.here; have z2 := K2.1
  obtain ⟨rfl, eh2⟩ := Q2
  show Goes p e below (PostN s Z h0 [] (QUCh2_0 Z fm b kb c0 c1 h0) ({ frames := 3, cells := 0, slots := 0, locals := 60 } : Room).cells ({ frames := 3, cells := 0, slots := 0, locals := 60 } : Room).slots) (T2.setTop (mkF m 10 #[.val (.ref b), .val (.int (0 : Int32))] [(.int (OwnKit.i2c ((((OwnKit.i2b c0) &&& (255 : Int32)) <<< ((0 : Int32) &&& 31)) ||| (((OwnKit.i2b (c0 >>> ((8 : Int32) &&& 31))) &&& (255 : Int32)) <<< ((8 : Int32) &&& 31)))))]))
  rw [pair16 w0]
  show Goes p e below (PostN s Z h0 [] (QUCh2_0 Z fm b kb c0 c1 h0) ({ frames := 3, cells := 0, slots := 0, locals := 60 } : Room).cells ({ frames := 3, cells := 0, slots := 0, locals := 60 } : Room).slots) (T2.setTop (mkF m 10 #[.val (.ref b), .val (.int (0 : Int32))] [(.int c0)]))
  exact Wk.retN W2 hx c0 (t := .char) (nar_c16 w0) (by simp) hret hlk (hb hby d24_10) (by decide) (by decide) ⟨rfl, (by rw [eh2, eh1])⟩
def QUSc2_0 (Z : State) (cz : Int32) (fm : Value) (a : Addr) (b : Addr) (kb : ClassId) (c0 : Int32) (c1 : Int32) (h0 : Heap) : Option Value → Heap → Prop := fun v h => v = some (.int c0) ∧ h = h0
set_option maxRecDepth 65536 in
set_option maxHeartbeats 40000000 in
theorem rmUSc2_0 (l : Launch) (Z : State) (a0 : Array Value) (hw : ∀ d ∈ tables_1, d.before a0 Z = true) (cz : Int32) (fm : Value) (a : Addr) (b : Addr) (kb : ClassId) (c0 : Int32) (c1 : Int32) (h0 : Heap) (O : Ext Z.heap h0) (hAD : Sta Z Z.heap "java/lang/StringUTF16" "$assertionsDisabled" "Z" (.int 1)) (hHI : Sta Z Z.heap "java/lang/StringUTF16" "HI_BYTE_SHIFT" "I" (.int 0)) (hLO : Sta Z Z.heap "java/lang/StringUTF16" "LO_BYTE_SHIFT" "I" (.int 8)) (w0 : C16 c0) (w1 : C16 c1) (hFM : Sta Z Z.heap "jdk/internal/util/Preconditions" "SIOOBE_FORMATTER" "Ljava/util/function/BiFunction;" fm) (hfm : fm.isRef = true) (hCS : Sta Z Z.heap "java/lang/String" "COMPACT_STRINGS" "Z" (.int cz)) (hcz : ¬ cz = 0) (Ea : Exa Z h0 a "java/lang/String") (Fc : Fld Z h0 a "java/lang/String" "coder" "B" (.int 1)) (Fv : Fld Z h0 a "java/lang/String" "value" "[B" (.ref b)) (Vb : Arv Z h0 b kb .byte 4 [(.int (OwnKit.i2b c0)), (.int (OwnKit.i2b (c0 >>> ((8 : Int32) &&& 31)))), (.int (OwnKit.i2b c1)), (.int (OwnKit.i2b (c1 >>> ((8 : Int32) &&& 31))))] (.int 0)) :
    CN [] l Z (⟨"java/lang/String", "charAt", "(I)C"⟩ : MethodName) jdk_42_method_56_code 2 (Option.some Jvm.ClassFile.FieldType.char) ({ frames := 4, cells := 0, slots := 0, locals := 80 } : Room) #[(.ref a), (.int (0 : Int32))] h0 [] (QUSc2_0 Z cz fm a b kb c0 c1 h0) := by
  refine CN.of_walk (plainFor_of_name pn0) O (fun _ q => nomatch q) ?_
  intro p e s m below meth c T0 W0 hx hby hml hoZ hnm hret hlk
  have H0 := W0.here; have hz0 := W0.zsize
  refine Goes.cast (ef4 m a (0 : Int32)) ?_
  refine G.aloadN H0 hx 1 (hb hby d14_0) rfl rfl rfl ?_
  refine Wk.virtual W0 hx hoZ (y := (⟨"java/lang/String", "isLatin1", "()Z"⟩ : MethodName)) (z := (⟨"java/lang/String", "isLatin1", "()Z"⟩ : MethodName)) (wd hw 82 rfl) (wd hw 83 rfl) (wd hw 85 rfl) (wd hw 84 rfl) (W0.nf (wd hw 85 rfl)) (by decide) (Wd := 0) (CN.back (rmLatW l Z a0 hw cz a h0 W0.old hCS hcz Ea Fc) W0.warm (wd hw 86 rfl) (wd hw 3 rfl) (by decide) (by decide)) Ea (by rw [hml]; rfl) [] [] (lenOf pd13 rfl) rfl rfl (Nat.le_of_eq rfl) 4 (hb hby d14_1) rfl (by decide) (by decide) (fun _ q => nomatch q) ?_
  intro v1 T1 h1 W1 K1 Ch1 Q1
  have H1 := W1.here; have z1 := K1.1
  obtain ⟨rfl, eh1⟩ := Q1
  show Goes p e below (PostN s Z h0 [] (QUSc2_0 Z cz fm a b kb c0 c1 h0) ({ frames := 4, cells := 0, slots := 0, locals := 80 } : Room).cells ({ frames := 4, cells := 0, slots := 0, locals := 80 } : Room).slots) (T1.setTop (mkF m 4 #[.val (.ref a), .val (.int (0 : Int32))] [(.int (0 : Int32))]))
  refine G.ifY H1 hx 16 (hb hby d14_4) (zeq (by decide)).1 (by decide) rfl ?_
  refine G.aloadN H1 hx 17 (hb hby d14_16) rfl rfl rfl ?_
  refine Wk.getF W1 hx hoZ (host := "") (Or.inl (wd hw 20 rfl)) Via.refl (Fv.keep K1 nin0) 20 (hb hby d14_17) rfl ?_
  intro T2 W2; have H2 := W2.here
  refine G.iloadN H2 hx 21 (hb hby d14_20) rfl rfl ?_
  refine Wk.callS W2 hx hoZ (y := (⟨"java/lang/StringUTF16", "charAt", "([BI)C"⟩ : MethodName)) (wd hw 118 rfl) (wd hw 119 rfl) (wd hw 69 rfl) (wd hw 120 rfl) (by decide) (Wd := 0) (CN.back (rmUCh2_0 l Z a0 hw fm b kb c0 c1 h1 W2.old hAD hHI hLO w0 w1 hFM hfm (Vb.keep K1 nin0)) W2.warm (wd hw 120 rfl) (wd hw 69 rfl) (by decide) (by decide)) (by rw [hml]; rfl) [(.ref b), (.int (0 : Int32))] [] (lenOf pd6 rfl) rfl rfl (Nat.le_of_eq rfl) 24 (hb hby d14_21) rfl (by decide) (by decide) (fun _ q => nomatch q) ?_
  intro v3 T3 h3 W3 K3 Ch3 Q3
  have H3 := W3.here; have z3 := K3.1
  obtain ⟨rfl, eh3⟩ := Q3
  show Goes p e below (PostN s Z h0 [] (QUSc2_0 Z cz fm a b kb c0 c1 h0) ({ frames := 4, cells := 0, slots := 0, locals := 80 } : Room).cells ({ frames := 4, cells := 0, slots := 0, locals := 80 } : Room).slots) (T3.setTop (mkF m 24 #[.val (.ref a), .val (.int (0 : Int32))] [(.int c0)]))
  exact Wk.retN W3 hx c0 (t := .char) (nar_c16 w0) (by simp) hret hlk (hb hby d14_24) (by decide) (by decide) ⟨rfl, (by rw [eh3, eh1])⟩
def QUCk2_1 (Z : State) (fm : Value) (b : Addr) (kb : ClassId) (c0 : Int32) (c1 : Int32) (h0 : Heap) : Option Value → Heap → Prop := fun v h => v = none ∧ h = h0
set_option maxRecDepth 65536 in
set_option maxHeartbeats 40000000 in
theorem rmUCk2_1 (l : Launch) (Z : State) (a0 : Array Value) (hw : ∀ d ∈ tables_1, d.before a0 Z = true) (fm : Value) (b : Addr) (kb : ClassId) (c0 : Int32) (c1 : Int32) (h0 : Heap) (O : Ext Z.heap h0) (hFM : Sta Z Z.heap "jdk/internal/util/Preconditions" "SIOOBE_FORMATTER" "Ljava/util/function/BiFunction;" fm) (hfm : fm.isRef = true) (Vb : Arv Z h0 b kb .byte 4 [(.int (OwnKit.i2b c0)), (.int (OwnKit.i2b (c0 >>> ((8 : Int32) &&& 31)))), (.int (OwnKit.i2b c1)), (.int (OwnKit.i2b (c1 >>> ((8 : Int32) &&& 31))))] (.int 0)) :
    CN [] l Z (⟨"java/lang/StringUTF16", "checkIndex", "(I[B)V"⟩ : MethodName) jdk_52_method_91_code 2 (Option.none : Option Jvm.ClassFile.FieldType) ({ frames := 2, cells := 0, slots := 0, locals := 40 } : Room) #[(.int (1 : Int32)), (.ref b)] h0 [] (QUCk2_1 Z fm b kb c0 c1 h0) := by
  refine CN.of_walk (plainFor_of_name pn2) O (fun _ q => nomatch q) ?_
  intro p e s m below meth c T0 W0 hx hby hml hoZ hnm hret hlk
  have H0 := W0.here; have hz0 := W0.zsize
  refine Goes.cast (ef11 m (1 : Int32) b) ?_
  refine G.iloadN H0 hx 1 (hb hby d25_0) rfl rfl ?_
  refine G.aloadN H0 hx 2 (hb hby d25_1) rfl rfl rfl ?_
  refine Wk.callS W0 hx hoZ (y := (⟨"java/lang/StringUTF16", "length", "([B)I"⟩ : MethodName)) (wd hw 124 rfl) (wd hw 125 rfl) (wd hw 69 rfl) (wd hw 126 rfl) (by decide) (Wd := 1) (CN.back (rmULn2 l Z a0 hw b kb (OwnKit.i2b c0) (OwnKit.i2b (c0 >>> ((8 : Int32) &&& 31))) (OwnKit.i2b c1) (OwnKit.i2b (c1 >>> ((8 : Int32) &&& 31))) h0 W0.old Vb) W0.warm (wd hw 126 rfl) (wd hw 69 rfl) (by decide) (by decide)) (by rw [hml]; rfl) [(.ref b)] [(.int (1 : Int32))] (lenOf pd10 rfl) rfl rfl (Nat.le_of_eq rfl) 5 (hb hby d25_2) rfl (by decide) (by decide) (fun _ q => nomatch q) ?_
  intro v1 T1 h1 W1 K1 Ch1 Q1
  have H1 := W1.here; have z1 := K1.1
  obtain ⟨rfl, eh1⟩ := Q1
  show Goes p e below (PostN s Z h0 [] (QUCk2_1 Z fm b kb c0 c1 h0) ({ frames := 2, cells := 0, slots := 0, locals := 40 } : Room).cells ({ frames := 2, cells := 0, slots := 0, locals := 40 } : Room).slots) (T1.setTop (mkF m 5 #[.val (.int (1 : Int32)), .val (.ref b)] [(.int (2 : Int32)), (.int (1 : Int32))]))
  refine Wk.callS W1 hx hoZ (y := (⟨"java/lang/String", "checkIndex", "(II)V"⟩ : MethodName)) (wd hw 127 rfl) (wd hw 92 rfl) (wd hw 3 rfl) (wd hw 93 rfl) (by decide) (Wd := 0) (CN.back (rmSCk l Z a0 hw fm (1 : Int32) (2 : Int32) h1 W1.old hFM hfm (by decide) (by decide)) W1.warm (wd hw 93 rfl) (wd hw 3 rfl) (by decide) (by decide)) (by rw [hml]; rfl) [(.int (1 : Int32)), (.int (2 : Int32))] [] (lenOf pd11 rfl) rfl rfl (Nat.le_of_eq rfl) 8 (hb hby d25_5) rfl (by decide) (by decide) (fun _ q => nomatch q) ?_
  intro v2 T2 h2 W2 K2 Ch2 Q2
  have H2 := W2.here; have z2 := K2.1
  obtain ⟨rfl, eh2⟩ := Q2
  show Goes p e below (PostN s Z h0 [] (QUCk2_1 Z fm b kb c0 c1 h0) ({ frames := 2, cells := 0, slots := 0, locals := 40 } : Room).cells ({ frames := 2, cells := 0, slots := 0, locals := 40 } : Room).slots) (T2.setTop (mkF m 8 #[.val (.int (1 : Int32)), .val (.ref b)] []))
  exact Wk.retV W2 hx hret hlk (hb hby d25_8) (by decide) (by decide) ⟨rfl, (by rw [eh2, eh1])⟩
def QUCh2_1 (Z : State) (fm : Value) (b : Addr) (kb : ClassId) (c0 : Int32) (c1 : Int32) (h0 : Heap) : Option Value → Heap → Prop := fun v h => v = some (.int c1) ∧ h = h0
set_option maxRecDepth 65536 in
set_option maxHeartbeats 40000000 in
theorem rmUCh2_1 (l : Launch) (Z : State) (a0 : Array Value) (hw : ∀ d ∈ tables_1, d.before a0 Z = true) (fm : Value) (b : Addr) (kb : ClassId) (c0 : Int32) (c1 : Int32) (h0 : Heap) (O : Ext Z.heap h0) (hAD : Sta Z Z.heap "java/lang/StringUTF16" "$assertionsDisabled" "Z" (.int 1)) (hHI : Sta Z Z.heap "java/lang/StringUTF16" "HI_BYTE_SHIFT" "I" (.int 0)) (hLO : Sta Z Z.heap "java/lang/StringUTF16" "LO_BYTE_SHIFT" "I" (.int 8)) (w0 : C16 c0) (w1 : C16 c1) (hFM : Sta Z Z.heap "jdk/internal/util/Preconditions" "SIOOBE_FORMATTER" "Ljava/util/function/BiFunction;" fm) (hfm : fm.isRef = true) (Vb : Arv Z h0 b kb .byte 4 [(.int (OwnKit.i2b c0)), (.int (OwnKit.i2b (c0 >>> ((8 : Int32) &&& 31)))), (.int (OwnKit.i2b c1)), (.int (OwnKit.i2b (c1 >>> ((8 : Int32) &&& 31))))] (.int 0)) :
    CN [] l Z (⟨"java/lang/StringUTF16", "charAt", "([BI)C"⟩ : MethodName) jdk_52_method_83_code 2 (Option.some Jvm.ClassFile.FieldType.char) ({ frames := 3, cells := 0, slots := 0, locals := 60 } : Room) #[(.ref b), (.int (1 : Int32))] h0 [] (QUCh2_1 Z fm b kb c0 c1 h0) := by
  refine CN.of_walk (plainFor_of_name pn2) O (fun _ q => nomatch q) ?_
  intro p e s m below meth c T0 W0 hx hby hml hoZ hnm hret hlk
  have H0 := W0.here; have hz0 := W0.zsize
  refine Goes.cast (ef4 m b (1 : Int32)) ?_
  refine G.iloadN H0 hx 1 (hb hby d24_0) rfl rfl ?_
  refine G.aloadN H0 hx 2 (hb hby d24_1) rfl rfl rfl ?_
  refine Wk.callS W0 hx hoZ (y := (⟨"java/lang/StringUTF16", "checkIndex", "(I[B)V"⟩ : MethodName)) (wd hw 121 rfl) (wd hw 122 rfl) (wd hw 69 rfl) (wd hw 123 rfl) (by decide) (Wd := 0) (CN.back (rmUCk2_1 l Z a0 hw fm b kb c0 c1 h0 W0.old hFM hfm Vb) W0.warm (wd hw 123 rfl) (wd hw 69 rfl) (by decide) (by decide)) (by rw [hml]; rfl) [(.int (1 : Int32)), (.ref b)] [] (lenOf pd12 rfl) rfl rfl (Nat.le_of_eq rfl) 5 (hb hby d24_2) rfl (by decide) (by decide) (fun _ q => nomatch q) ?_
  intro v1 T1 h1 W1 K1 Ch1 Q1
  have H1 := W1.here; have z1 := K1.1
  obtain ⟨rfl, eh1⟩ := Q1
  show Goes p e below (PostN s Z h0 [] (QUCh2_1 Z fm b kb c0 c1 h0) ({ frames := 3, cells := 0, slots := 0, locals := 60 } : Room).cells ({ frames := 3, cells := 0, slots := 0, locals := 60 } : Room).slots) (T1.setTop (mkF m 5 #[.val (.ref b), .val (.int (1 : Int32))] []))
  refine G.aloadN H1 hx 6 (hb hby d24_5) rfl rfl rfl ?_
  refine G.iloadN H1 hx 7 (hb hby d24_6) rfl rfl ?_
  refine Wk.callS W1 hx hoZ (y := (⟨"java/lang/StringUTF16", "getChar", "([BI)C"⟩ : MethodName)) (wd hw 115 rfl) (wd hw 116 rfl) (wd hw 69 rfl) (wd hw 117 rfl) (by decide) (Wd := 0) (CN.back (rmUGc2_1 l Z a0 hw b kb (OwnKit.i2b c0) (OwnKit.i2b (c0 >>> ((8 : Int32) &&& 31))) (OwnKit.i2b c1) (OwnKit.i2b (c1 >>> ((8 : Int32) &&& 31))) h1 W1.old hAD hHI hLO (Vb.keep K1 nin0)) W1.warm (wd hw 117 rfl) (wd hw 69 rfl) (by decide) (by decide)) (by rw [hml]; rfl) [(.ref b), (.int (1 : Int32))] [] (lenOf pd6 rfl) rfl rfl (Nat.le_of_eq rfl) 10 (hb hby d24_7) rfl (by decide) (by decide) (fun _ q => nomatch q) ?_
  intro v2 T2 h2 W2 K2 Ch2 Q2
  have H2 := W2.here; have z2 := K2.1
  obtain ⟨rfl, eh2⟩ := Q2
  show Goes p e below (PostN s Z h0 [] (QUCh2_1 Z fm b kb c0 c1 h0) ({ frames := 3, cells := 0, slots := 0, locals := 60 } : Room).cells ({ frames := 3, cells := 0, slots := 0, locals := 60 } : Room).slots) (T2.setTop (mkF m 10 #[.val (.ref b), .val (.int (1 : Int32))] [(.int (OwnKit.i2c ((((OwnKit.i2b c1) &&& (255 : Int32)) <<< ((0 : Int32) &&& 31)) ||| (((OwnKit.i2b (c1 >>> ((8 : Int32) &&& 31))) &&& (255 : Int32)) <<< ((8 : Int32) &&& 31)))))]))
  rw [pair16 w1]
  show Goes p e below (PostN s Z h0 [] (QUCh2_1 Z fm b kb c0 c1 h0) ({ frames := 3, cells := 0, slots := 0, locals := 60 } : Room).cells ({ frames := 3, cells := 0, slots := 0, locals := 60 } : Room).slots) (T2.setTop (mkF m 10 #[.val (.ref b), .val (.int (1 : Int32))] [(.int c1)]))
  exact Wk.retN W2 hx c1 (t := .char) (nar_c16 w1) (by simp) hret hlk (hb hby d24_10) (by decide) (by decide) ⟨rfl, (by rw [eh2, eh1])⟩
def QUSc2_1 (Z : State) (cz : Int32) (fm : Value) (a : Addr) (b : Addr) (kb : ClassId) (c0 : Int32) (c1 : Int32) (h0 : Heap) : Option Value → Heap → Prop := fun v h => v = some (.int c1) ∧ h = h0
set_option maxRecDepth 65536 in
set_option maxHeartbeats 40000000 in
theorem rmUSc2_1 (l : Launch) (Z : State) (a0 : Array Value) (hw : ∀ d ∈ tables_1, d.before a0 Z = true) (cz : Int32) (fm : Value) (a : Addr) (b : Addr) (kb : ClassId) (c0 : Int32) (c1 : Int32) (h0 : Heap) (O : Ext Z.heap h0) (hAD : Sta Z Z.heap "java/lang/StringUTF16" "$assertionsDisabled" "Z" (.int 1)) (hHI : Sta Z Z.heap "java/lang/StringUTF16" "HI_BYTE_SHIFT" "I" (.int 0)) (hLO : Sta Z Z.heap "java/lang/StringUTF16" "LO_BYTE_SHIFT" "I" (.int 8)) (w0 : C16 c0) (w1 : C16 c1) (hFM : Sta Z Z.heap "jdk/internal/util/Preconditions" "SIOOBE_FORMATTER" "Ljava/util/function/BiFunction;" fm) (hfm : fm.isRef = true) (hCS : Sta Z Z.heap "java/lang/String" "COMPACT_STRINGS" "Z" (.int cz)) (hcz : ¬ cz = 0) (Ea : Exa Z h0 a "java/lang/String") (Fc : Fld Z h0 a "java/lang/String" "coder" "B" (.int 1)) (Fv : Fld Z h0 a "java/lang/String" "value" "[B" (.ref b)) (Vb : Arv Z h0 b kb .byte 4 [(.int (OwnKit.i2b c0)), (.int (OwnKit.i2b (c0 >>> ((8 : Int32) &&& 31)))), (.int (OwnKit.i2b c1)), (.int (OwnKit.i2b (c1 >>> ((8 : Int32) &&& 31))))] (.int 0)) :
    CN [] l Z (⟨"java/lang/String", "charAt", "(I)C"⟩ : MethodName) jdk_42_method_56_code 2 (Option.some Jvm.ClassFile.FieldType.char) ({ frames := 4, cells := 0, slots := 0, locals := 80 } : Room) #[(.ref a), (.int (1 : Int32))] h0 [] (QUSc2_1 Z cz fm a b kb c0 c1 h0) := by
  refine CN.of_walk (plainFor_of_name pn0) O (fun _ q => nomatch q) ?_
  intro p e s m below meth c T0 W0 hx hby hml hoZ hnm hret hlk
  have H0 := W0.here; have hz0 := W0.zsize
  refine Goes.cast (ef4 m a (1 : Int32)) ?_
  refine G.aloadN H0 hx 1 (hb hby d14_0) rfl rfl rfl ?_
  refine Wk.virtual W0 hx hoZ (y := (⟨"java/lang/String", "isLatin1", "()Z"⟩ : MethodName)) (z := (⟨"java/lang/String", "isLatin1", "()Z"⟩ : MethodName)) (wd hw 82 rfl) (wd hw 83 rfl) (wd hw 85 rfl) (wd hw 84 rfl) (W0.nf (wd hw 85 rfl)) (by decide) (Wd := 0) (CN.back (rmLatW l Z a0 hw cz a h0 W0.old hCS hcz Ea Fc) W0.warm (wd hw 86 rfl) (wd hw 3 rfl) (by decide) (by decide)) Ea (by rw [hml]; rfl) [] [] (lenOf pd13 rfl) rfl rfl (Nat.le_of_eq rfl) 4 (hb hby d14_1) rfl (by decide) (by decide) (fun _ q => nomatch q) ?_
  intro v1 T1 h1 W1 K1 Ch1 Q1
  have H1 := W1.here; have z1 := K1.1
  obtain ⟨rfl, eh1⟩ := Q1
  show Goes p e below (PostN s Z h0 [] (QUSc2_1 Z cz fm a b kb c0 c1 h0) ({ frames := 4, cells := 0, slots := 0, locals := 80 } : Room).cells ({ frames := 4, cells := 0, slots := 0, locals := 80 } : Room).slots) (T1.setTop (mkF m 4 #[.val (.ref a), .val (.int (1 : Int32))] [(.int (0 : Int32))]))
  refine G.ifY H1 hx 16 (hb hby d14_4) (zeq (by decide)).1 (by decide) rfl ?_
  refine G.aloadN H1 hx 17 (hb hby d14_16) rfl rfl rfl ?_
  refine Wk.getF W1 hx hoZ (host := "") (Or.inl (wd hw 20 rfl)) Via.refl (Fv.keep K1 nin0) 20 (hb hby d14_17) rfl ?_
  intro T2 W2; have H2 := W2.here
  refine G.iloadN H2 hx 21 (hb hby d14_20) rfl rfl ?_
  refine Wk.callS W2 hx hoZ (y := (⟨"java/lang/StringUTF16", "charAt", "([BI)C"⟩ : MethodName)) (wd hw 118 rfl) (wd hw 119 rfl) (wd hw 69 rfl) (wd hw 120 rfl) (by decide) (Wd := 0) (CN.back (rmUCh2_1 l Z a0 hw fm b kb c0 c1 h1 W2.old hAD hHI hLO w0 w1 hFM hfm (Vb.keep K1 nin0)) W2.warm (wd hw 120 rfl) (wd hw 69 rfl) (by decide) (by decide)) (by rw [hml]; rfl) [(.ref b), (.int (1 : Int32))] [] (lenOf pd6 rfl) rfl rfl (Nat.le_of_eq rfl) 24 (hb hby d14_21) rfl (by decide) (by decide) (fun _ q => nomatch q) ?_
  intro v3 T3 h3 W3 K3 Ch3 Q3
  have H3 := W3.here; have z3 := K3.1
  obtain ⟨rfl, eh3⟩ := Q3
  show Goes p e below (PostN s Z h0 [] (QUSc2_1 Z cz fm a b kb c0 c1 h0) ({ frames := 4, cells := 0, slots := 0, locals := 80 } : Room).cells ({ frames := 4, cells := 0, slots := 0, locals := 80 } : Room).slots) (T3.setTop (mkF m 24 #[.val (.ref a), .val (.int (1 : Int32))] [(.int c1)]))
  exact Wk.retN W3 hx c1 (t := .char) (nar_c16 w1) (by simp) hret hlk (hb hby d14_24) (by decide) (by decide) ⟨rfl, (by rw [eh3, eh1])⟩
def QUCm3 (Z : State) (pz : Addr) (kp : ClassId) (c0 : Int32) (c1 : Int32) (c2 : Int32) (q : Addr) (kq : ClassId) (h0 : Heap) : Option Value → Heap → Prop := fun v h => v = some (.int (if (255 : Int32) < c0 then (0 : Int32) else (if (255 : Int32) < c1 then (1 : Int32) else (if (255 : Int32) < c2 then (2 : Int32) else (3 : Int32)))))
set_option maxRecDepth 65536 in
set_option maxHeartbeats 40000000 in
theorem rmUCm3 (l : Launch) (Z : State) (a0 : Array Value) (hw : ∀ d ∈ tables_1, d.before a0 Z = true) (pz : Addr) (kp : ClassId) (c0 : Int32) (c1 : Int32) (c2 : Int32) (q : Addr) (kq : ClassId) (h0 : Heap) (O : Ext Z.heap h0) (Vp : Arv Z h0 pz kp .char 3 [(.int c0), (.int c1), (.int c2)] (.int 0)) (gz_q : Z.heap.size ≤ q) (Vq : Arv Z h0 q kq .byte 3 [(.int (0 : Int32)), (.int (0 : Int32)), (.int (0 : Int32))] (.int 0)) (npq0 : pz ≠ q) :
    CN [] l Z (⟨"java/lang/StringUTF16", "compress", "([CI[BII)I"⟩ : MethodName) jdk_52_method_21_code 7 (Option.some Jvm.ClassFile.FieldType.int) ({ frames := 0, cells := 0, slots := 0, locals := 0 } : Room) #[(.ref pz), (.int (0 : Int32)), (.ref q), (.int (0 : Int32)), (.int (3 : Int32))] h0 [q] (QUCm3 Z pz kp c0 c1 c2 q kq h0) := by
  refine CN.of_walk (plainFor_of_name pn2) O (ala gz_q ala0) ?_
  intro p e s m below meth c T0 W0 hx hby hml hoZ hnm hret hlk
  have H0 := W0.here; have hz0 := W0.zsize
  refine Goes.cast (ef5 m pz (0 : Int32) q (0 : Int32) (3 : Int32)) ?_
  have lp := ltN Vp.lt
  have lq := ltN Vq.lt; have npq := neN npq0
  refine G.iconst H0 hx 1 (0 : Int32) (hb hby d12_0) rfl rfl ?_
  refine G.istoreX H0 hx 3 #[.val (.ref pz), .val (.int (0 : Int32)), .val (.ref q), .val (.int (0 : Int32)), .val (.int (3 : Int32)), .val (.int (0 : Int32)), .unset] (hb hby d12_1) rfl rfl ?_
  refine G.iload H0 hx 5 (hb hby d12_3) rfl rfl ?_
  refine G.iload H0 hx 7 (hb hby d12_5) rfl rfl ?_
  refine G.icmpN H0 hx 10 (hb hby d12_7) (tlt (by decide)).2.1 rfl ?_
  refine G.aloadN H0 hx 11 (hb hby d12_10) rfl rfl rfl ?_
  refine G.iloadN H0 hx 12 (hb hby d12_11) rfl rfl ?_
  refine Wk.caload W0 hx Vp ⟨by decide, by decide⟩ (.int c0) rfl 13 (hb hby d12_12) rfl ?_
  refine G.istoreX H0 hx 15 #[.val (.ref pz), .val (.int (0 : Int32)), .val (.ref q), .val (.int (0 : Int32)), .val (.int (3 : Int32)), .val (.int (0 : Int32)), .val (.int c0)] (hb hby d12_13) rfl rfl ?_
  refine G.iload H0 hx 17 (hb hby d12_15) rfl rfl ?_
  refine G.sipush H0 hx 20 (255 : Int32) (hb hby d12_17) rfl rfl ?_
  by_cases c20_1 : (255 : Int32) < c0
  ·
    refine G.icmpN H0 hx 23 (hb hby d12_20) (tlt c20_1).2.2.2 rfl ?_
    refine G.iload H0 hx 25 (hb hby d12_23) rfl rfl ?_
    exact Wk.retI W0 hx hret hlk (hb hby d12_25) (by decide) (by decide) (by unfold QUCm3; simp only [if_pos c20_1])
  ·
    refine G.icmpY H0 hx 26 (hb hby d12_20) (flt c20_1).2.2.2 (by decide) rfl ?_
    refine G.aloadN H0 hx 27 (hb hby d12_26) rfl rfl rfl ?_
    refine G.iloadN H0 hx 28 (hb hby d12_27) rfl rfl ?_
    refine G.iload H0 hx 30 (hb hby d12_28) rfl rfl ?_
    refine G.i2b H0 hx 31 (hb hby d12_30) rfl ?_
    refine Wk.bastore W0 hx Vq (Or.inl (by simp)) safe0 (OwnKit.i2b c0) (i2b_i2b _) 0 rfl ⟨by decide, by decide⟩ (Nat.le_of_ble_eq_true rfl) 32 (hb hby d12_31) rfl ?_
    intro T2 h2 W2 K2 Ch2 V2; have H2 := W2.here; have z2 := K2.1
    have V2 : Arv Z h2 q kq .byte (3 : Int32) [(.int (OwnKit.i2b c0)), (.int (0 : Int32)), (.int (0 : Int32))] (.int 0) := V2
    refine G.iincX H2 hx 35 #[.val (.ref pz), .val (.int (1 : Int32)), .val (.ref q), .val (.int (0 : Int32)), .val (.int (3 : Int32)), .val (.int (0 : Int32)), .val (.int c0)] (hb hby d12_32) rfl (1 : Int32) rfl rfl rfl ?_
    refine G.iincX H2 hx 38 #[.val (.ref pz), .val (.int (1 : Int32)), .val (.ref q), .val (.int (1 : Int32)), .val (.int (3 : Int32)), .val (.int (0 : Int32)), .val (.int c0)] (hb hby d12_35) rfl (1 : Int32) rfl rfl rfl ?_
    refine G.iincX H2 hx 41 #[.val (.ref pz), .val (.int (1 : Int32)), .val (.ref q), .val (.int (1 : Int32)), .val (.int (3 : Int32)), .val (.int (1 : Int32)), .val (.int c0)] (hb hby d12_38) rfl (1 : Int32) rfl rfl rfl ?_
    refine G.goto H2 hx 3 (hb hby d12_41) (by decide) rfl ?_
    refine G.iload H2 hx 5 (hb hby d12_3) rfl rfl ?_
    refine G.iload H2 hx 7 (hb hby d12_5) rfl rfl ?_
    refine G.icmpN H2 hx 10 (hb hby d12_7) (tlt (by decide)).2.1 rfl ?_
    refine G.aloadN H2 hx 11 (hb hby d12_10) rfl rfl rfl ?_
    refine G.iloadN H2 hx 12 (hb hby d12_11) rfl rfl ?_
    refine Wk.caload W2 hx (Vp.keep K2 (ninS (neA (by omega)) nin0)) ⟨by decide, by decide⟩ (.int c1) rfl 13 (hb hby d12_12) rfl ?_
    refine G.istoreX H2 hx 15 #[.val (.ref pz), .val (.int (1 : Int32)), .val (.ref q), .val (.int (1 : Int32)), .val (.int (3 : Int32)), .val (.int (1 : Int32)), .val (.int c1)] (hb hby d12_13) rfl rfl ?_
    refine G.iload H2 hx 17 (hb hby d12_15) rfl rfl ?_
    refine G.sipush H2 hx 20 (255 : Int32) (hb hby d12_17) rfl rfl ?_
    by_cases c20_3 : (255 : Int32) < c1
    ·
      refine G.icmpN H2 hx 23 (hb hby d12_20) (tlt c20_3).2.2.2 rfl ?_
      refine G.iload H2 hx 25 (hb hby d12_23) rfl rfl ?_
      exact Wk.retI W2 hx hret hlk (hb hby d12_25) (by decide) (by decide) (by unfold QUCm3; simp only [if_neg c20_1, if_pos c20_3])
    ·
      refine G.icmpY H2 hx 26 (hb hby d12_20) (flt c20_3).2.2.2 (by decide) rfl ?_
      refine G.aloadN H2 hx 27 (hb hby d12_26) rfl rfl rfl ?_
      refine G.iloadN H2 hx 28 (hb hby d12_27) rfl rfl ?_
      refine G.iload H2 hx 30 (hb hby d12_28) rfl rfl ?_
      refine G.i2b H2 hx 31 (hb hby d12_30) rfl ?_
      refine Wk.bastore W2 hx V2 (Or.inl (by simp)) safe0 (OwnKit.i2b c1) (i2b_i2b _) 1 rfl ⟨by decide, by decide⟩ (Nat.le_of_ble_eq_true rfl) 32 (hb hby d12_31) rfl ?_
      intro T4 h4 W4 K4 Ch4 V4; have H4 := W4.here; have z4 := K4.1
      have V4 : Arv Z h4 q kq .byte (3 : Int32) [(.int (OwnKit.i2b c0)), (.int (OwnKit.i2b c1)), (.int (0 : Int32))] (.int 0) := V4
      refine G.iincX H4 hx 35 #[.val (.ref pz), .val (.int (2 : Int32)), .val (.ref q), .val (.int (1 : Int32)), .val (.int (3 : Int32)), .val (.int (1 : Int32)), .val (.int c1)] (hb hby d12_32) rfl (1 : Int32) rfl rfl rfl ?_
      refine G.iincX H4 hx 38 #[.val (.ref pz), .val (.int (2 : Int32)), .val (.ref q), .val (.int (2 : Int32)), .val (.int (3 : Int32)), .val (.int (1 : Int32)), .val (.int c1)] (hb hby d12_35) rfl (1 : Int32) rfl rfl rfl ?_
      refine G.iincX H4 hx 41 #[.val (.ref pz), .val (.int (2 : Int32)), .val (.ref q), .val (.int (2 : Int32)), .val (.int (3 : Int32)), .val (.int (2 : Int32)), .val (.int c1)] (hb hby d12_38) rfl (1 : Int32) rfl rfl rfl ?_
      refine G.goto H4 hx 3 (hb hby d12_41) (by decide) rfl ?_
      refine G.iload H4 hx 5 (hb hby d12_3) rfl rfl ?_
      refine G.iload H4 hx 7 (hb hby d12_5) rfl rfl ?_
      refine G.icmpN H4 hx 10 (hb hby d12_7) (tlt (by decide)).2.1 rfl ?_
      refine G.aloadN H4 hx 11 (hb hby d12_10) rfl rfl rfl ?_
      refine G.iloadN H4 hx 12 (hb hby d12_11) rfl rfl ?_
      refine Wk.caload W4 hx ((Vp.keep K2 (ninS (neA (by omega)) nin0)).keep K4 (ninS (neA (by omega)) nin0)) ⟨by decide, by decide⟩ (.int c2) rfl 13 (hb hby d12_12) rfl ?_
      refine G.istoreX H4 hx 15 #[.val (.ref pz), .val (.int (2 : Int32)), .val (.ref q), .val (.int (2 : Int32)), .val (.int (3 : Int32)), .val (.int (2 : Int32)), .val (.int c2)] (hb hby d12_13) rfl rfl ?_
      refine G.iload H4 hx 17 (hb hby d12_15) rfl rfl ?_
      refine G.sipush H4 hx 20 (255 : Int32) (hb hby d12_17) rfl rfl ?_
      by_cases c20_5 : (255 : Int32) < c2
      ·
        refine G.icmpN H4 hx 23 (hb hby d12_20) (tlt c20_5).2.2.2 rfl ?_
        refine G.iload H4 hx 25 (hb hby d12_23) rfl rfl ?_
        exact Wk.retI W4 hx hret hlk (hb hby d12_25) (by decide) (by decide) (by unfold QUCm3; simp only [if_neg c20_1, if_neg c20_3, if_pos c20_5])
      ·
        refine G.icmpY H4 hx 26 (hb hby d12_20) (flt c20_5).2.2.2 (by decide) rfl ?_
        refine G.aloadN H4 hx 27 (hb hby d12_26) rfl rfl rfl ?_
        refine G.iloadN H4 hx 28 (hb hby d12_27) rfl rfl ?_
        refine G.iload H4 hx 30 (hb hby d12_28) rfl rfl ?_
        refine G.i2b H4 hx 31 (hb hby d12_30) rfl ?_
        refine Wk.bastore W4 hx V4 (Or.inl (by simp)) safe0 (OwnKit.i2b c2) (i2b_i2b _) 2 rfl ⟨by decide, by decide⟩ (Nat.le_of_ble_eq_true rfl) 32 (hb hby d12_31) rfl ?_
        intro T6 h6 W6 K6 Ch6 V6; have H6 := W6.here; have z6 := K6.1
        have V6 : Arv Z h6 q kq .byte (3 : Int32) [(.int (OwnKit.i2b c0)), (.int (OwnKit.i2b c1)), (.int (OwnKit.i2b c2))] (.int 0) := V6
        refine G.iincX H6 hx 35 #[.val (.ref pz), .val (.int (3 : Int32)), .val (.ref q), .val (.int (2 : Int32)), .val (.int (3 : Int32)), .val (.int (2 : Int32)), .val (.int c2)] (hb hby d12_32) rfl (1 : Int32) rfl rfl rfl ?_
        refine G.iincX H6 hx 38 #[.val (.ref pz), .val (.int (3 : Int32)), .val (.ref q), .val (.int (3 : Int32)), .val (.int (3 : Int32)), .val (.int (2 : Int32)), .val (.int c2)] (hb hby d12_35) rfl (1 : Int32) rfl rfl rfl ?_
        refine G.iincX H6 hx 41 #[.val (.ref pz), .val (.int (3 : Int32)), .val (.ref q), .val (.int (3 : Int32)), .val (.int (3 : Int32)), .val (.int (3 : Int32)), .val (.int c2)] (hb hby d12_38) rfl (1 : Int32) rfl rfl rfl ?_
        refine G.goto H6 hx 3 (hb hby d12_41) (by decide) rfl ?_
        refine G.iload H6 hx 5 (hb hby d12_3) rfl rfl ?_
        refine G.iload H6 hx 7 (hb hby d12_5) rfl rfl ?_
        refine G.icmpY H6 hx 44 (hb hby d12_7) (flt (by decide)).2.1 (by decide) rfl ?_
        refine G.iload H6 hx 46 (hb hby d12_44) rfl rfl ?_
        exact Wk.retI W6 hx hret hlk (hb hby d12_46) (by decide) (by decide) (by unfold QUCm3; simp only [if_neg c20_1, if_neg c20_3, if_neg c20_5])
def QUNl3 (Z : State)  (h0 : Heap) : Option Value → Heap → Prop := fun v h => v = some (.int 6) ∧ h = h0
set_option maxRecDepth 65536 in
set_option maxHeartbeats 40000000 in
theorem rmUNl3 (l : Launch) (Z : State) (a0 : Array Value) (hw : ∀ d ∈ tables_1, d.before a0 Z = true)  (h0 : Heap) (O : Ext Z.heap h0) :
    CN [] l Z (⟨"java/lang/StringUTF16", "newBytesLength", "(I)I"⟩ : MethodName) jdk_52_method_3_code 1 (Option.some Jvm.ClassFile.FieldType.int) ({ frames := 0, cells := 0, slots := 0, locals := 0 } : Room) #[(.int (3 : Int32))] h0 [] (QUNl3 Z  h0) := by
  refine CN.of_walk (plainFor_of_name pn2) O (fun _ q => nomatch q) ?_
  intro p e s m below meth c T0 W0 hx hby hml hoZ hnm hret hlk
  have H0 := W0.here; have hz0 := W0.zsize
  refine Goes.cast (ef6 m (3 : Int32)) ?_
  refine G.iloadN H0 hx 1 (hb hby d21_0) rfl rfl ?_
  refine G.ifY H0 hx 12 (hb hby d21_1) (znl (by decide)).2 (by decide) rfl ?_
  refine G.iloadN H0 hx 13 (hb hby d21_12) rfl rfl ?_
  refine Wk.ldcI W0 hx hoZ (wd hw 108 rfl) 15 (hb hby d21_13) rfl ?_
  refine G.icmpY H0 hx 55 (hb hby d21_15) (tlt (by decide)).1 (by decide) rfl ?_
  refine G.iloadN H0 hx 56 (hb hby d21_55) rfl rfl ?_
  refine G.iconst H0 hx 57 (1 : Int32) (hb hby d21_56) rfl rfl ?_
  refine G.ishlF H0 hx 58 (6 : Int32) (hb hby d21_57) (by decide) rfl ?_
  exact Wk.retI W0 hx hret hlk (hb hby d21_58) (by decide) (by decide) ⟨rfl, rfl⟩
def QUNf3 (Z : State)  (h0 : Heap) : Option Value → Heap → Prop := fun v h => ∃ (b : Addr) (k : ClassId), v = some (.ref b) ∧ h0.size ≤ b ∧ Arv Z h b k .byte 6 [(.int (0 : Int32)), (.int (0 : Int32)), (.int (0 : Int32)), (.int (0 : Int32)), (.int (0 : Int32)), (.int (0 : Int32))] (.int 0)
set_option maxRecDepth 65536 in
set_option maxHeartbeats 40000000 in
theorem rmUNf3 (l : Launch) (Z : State) (a0 : Array Value) (hw : ∀ d ∈ tables_1, d.before a0 Z = true)  (h0 : Heap) (O : Ext Z.heap h0) :
    CN [] l Z (⟨"java/lang/StringUTF16", "newBytesFor", "(I)[B"⟩ : MethodName) jdk_52_method_2_code 1 (Option.some (Jvm.ClassFile.FieldType.array Jvm.ClassFile.FieldType.byte)) ({ frames := 1, cells := 1, slots := 6, locals := 14 } : Room) #[(.int (3 : Int32))] h0 [] (QUNf3 Z  h0) := by
  refine CN.of_walk (plainFor_of_name pn2) O (fun _ q => nomatch q) ?_
  intro p e s m below meth c T0 W0 hx hby hml hoZ hnm hret hlk
  have H0 := W0.here; have hz0 := W0.zsize
  refine Goes.cast (ef6 m (3 : Int32)) ?_
  refine G.iloadN H0 hx 1 (hb hby d20_0) rfl rfl ?_
  refine Wk.callS W0 hx hoZ (y := (⟨"java/lang/StringUTF16", "newBytesLength", "(I)I"⟩ : MethodName)) (wd hw 105 rfl) (wd hw 106 rfl) (wd hw 69 rfl) (wd hw 107 rfl) (by decide) (Wd := 0) (CN.back (rmUNl3 l Z a0 hw  h0 W0.old ) W0.warm (wd hw 107 rfl) (wd hw 69 rfl) (by decide) (by decide)) (by rw [hml]; rfl) [(.int (3 : Int32))] [] (lenOf pd1 rfl) rfl rfl (Nat.le_of_eq rfl) 4 (hb hby d20_1) rfl (by decide) (by decide) (fun _ q => nomatch q) ?_
  intro v1 T1 h1 W1 K1 Ch1 Q1
  have H1 := W1.here; have z1 := K1.1
  obtain ⟨rfl, eh1⟩ := Q1
  show Goes p e below (PostN s Z h0 [] (QUNf3 Z  h0) ({ frames := 1, cells := 1, slots := 6, locals := 14 } : Room).cells ({ frames := 1, cells := 1, slots := 6, locals := 14 } : Room).slots) (T1.setTop (mkF m 4 #[.val (.int (3 : Int32))] [(.int (6 : Int32))]))
  refine Wk.newP W1 hx (wd hw 15 rfl) 6 (hb hby d20_4) (by decide) 6 (by decide) rfl (by decide) (by decide) (by decide) ?_
  intro T2 h2 a2 k2 W2 E2 g2 V2 S2
  have H2 := W2.here; have z2 := E2.1; have gu2 := Nat.le_of_eq g2; have gt2 := Nat.le_of_eq g2.symm; have l2 := ltN V2.lt
  have V2 : Arv Z h2 a2 k2 .byte (6 : Int32) [(.int (0 : Int32)), (.int (0 : Int32)), (.int (0 : Int32)), (.int (0 : Int32)), (.int (0 : Int32)), (.int (0 : Int32))] (.int (0 : Int32)) := V2
  exact Wk.retA W2 hx (t := (.array .byte)) rfl rfl hret hlk (hb hby d20_6) (by decide) (by decide) ⟨_, _, rfl, by omega, V2⟩
def QUTb3 (Z : State) (pz : Addr) (kp : ClassId) (c0 : Int32) (c1 : Int32) (c2 : Int32) (h0 : Heap) : Option Value → Heap → Prop := fun v h => ∃ (b : Addr) (k : ClassId), v = some (.ref b) ∧ h0.size ≤ b ∧ Arv Z h b k .byte 6 [(.int (OwnKit.i2b c0)), (.int (OwnKit.i2b (c0 >>> ((8 : Int32) &&& 31)))), (.int (OwnKit.i2b c1)), (.int (OwnKit.i2b (c1 >>> ((8 : Int32) &&& 31)))), (.int (OwnKit.i2b c2)), (.int (OwnKit.i2b (c2 >>> ((8 : Int32) &&& 31))))] (.int 0)
set_option maxRecDepth 65536 in
set_option maxHeartbeats 40000000 in
theorem rmUTb3 (l : Launch) (Z : State) (a0 : Array Value) (hw : ∀ d ∈ tables_1, d.before a0 Z = true) (pz : Addr) (kp : ClassId) (c0 : Int32) (c1 : Int32) (c2 : Int32) (h0 : Heap) (O : Ext Z.heap h0) (hAD : Sta Z Z.heap "java/lang/StringUTF16" "$assertionsDisabled" "Z" (.int 1)) (hHI : Sta Z Z.heap "java/lang/StringUTF16" "HI_BYTE_SHIFT" "I" (.int 0)) (hLO : Sta Z Z.heap "java/lang/StringUTF16" "LO_BYTE_SHIFT" "I" (.int 8)) (Vp : Arv Z h0 pz kp .char 3 [(.int c0), (.int c1), (.int c2)] (.int 0)) :
    CN [] l Z (⟨"java/lang/StringUTF16", "toBytes", "([CII)[B"⟩ : MethodName) jdk_52_method_14_code 5 (Option.some (Jvm.ClassFile.FieldType.array Jvm.ClassFile.FieldType.byte)) ({ frames := 2, cells := 1, slots := 6, locals := 40 } : Room) #[(.ref pz), (.int (0 : Int32)), (.int (3 : Int32))] h0 [] (QUTb3 Z pz kp c0 c1 c2 h0) := by
  refine CN.of_walk (plainFor_of_name pn2) O (fun _ q => nomatch q) ?_
  intro p e s m below meth c T0 W0 hx hby hml hoZ hnm hret hlk
  have H0 := W0.here; have hz0 := W0.zsize
  refine Goes.cast (ef7 m pz (0 : Int32) (3 : Int32)) ?_
  have lp := ltN Vp.lt
  refine G.iloadN H0 hx 1 (hb hby d19_0) rfl rfl ?_
  refine Wk.callS W0 hx hoZ (y := (⟨"java/lang/StringUTF16", "newBytesFor", "(I)[B"⟩ : MethodName)) (wd hw 102 rfl) (wd hw 103 rfl) (wd hw 69 rfl) (wd hw 104 rfl) (by decide) (Wd := 0) (CN.back (rmUNf3 l Z a0 hw  h0 W0.old ) W0.warm (wd hw 104 rfl) (wd hw 69 rfl) (by decide) (by decide)) (by rw [hml]; rfl) [(.int (3 : Int32))] [] (lenOf pd2 rfl) rfl rfl (Nat.le_of_eq rfl) 4 (hb hby d19_1) rfl (by decide) (by decide) (fun _ q => nomatch q) ?_
  intro v1 T1 h1 W1 K1 Ch1 Q1
  have H1 := W1.here; have z1 := K1.1
  obtain ⟨b1, k1, rfl, g1, V1⟩ := Q1; have l1 := ltN V1.lt
  show Goes p e below (PostN s Z h0 [] (QUTb3 Z pz kp c0 c1 c2 h0) ({ frames := 2, cells := 1, slots := 6, locals := 40 } : Room).cells ({ frames := 2, cells := 1, slots := 6, locals := 40 } : Room).slots) (T1.setTop (mkF m 4 #[.val (.ref pz), .val (.int (0 : Int32)), .val (.int (3 : Int32)), .unset, .unset] [(.ref b1)]))
  refine G.astoreN H1 hx 5 #[.val (.ref pz), .val (.int (0 : Int32)), .val (.int (3 : Int32)), .val (.ref b1), .unset] (hb hby d19_4) rfl rfl rfl ?_
  refine G.iconst H1 hx 6 (0 : Int32) (hb hby d19_5) rfl rfl ?_
  refine G.istoreX H1 hx 8 #[.val (.ref pz), .val (.int (0 : Int32)), .val (.int (3 : Int32)), .val (.ref b1), .val (.int (0 : Int32))] (hb hby d19_6) rfl rfl ?_
  refine G.iload H1 hx 10 (hb hby d19_8) rfl rfl ?_
  refine G.iloadN H1 hx 11 (hb hby d19_10) rfl rfl ?_
  refine G.icmpN H1 hx 14 (hb hby d19_11) (tlt (by decide)).2.1 rfl ?_
  refine G.aloadN H1 hx 15 (hb hby d19_14) rfl rfl rfl ?_
  refine G.iload H1 hx 17 (hb hby d19_15) rfl rfl ?_
  refine G.aloadN H1 hx 18 (hb hby d19_17) rfl rfl rfl ?_
  refine G.iloadN H1 hx 19 (hb hby d19_18) rfl rfl ?_
  refine Wk.caload W1 hx (Vp.keep K1 nin0) ⟨by decide, by decide⟩ (.int c0) rfl 20 (hb hby d19_19) rfl ?_
  refine Wk.callS W1 hx hoZ (y := (⟨"java/lang/StringUTF16", "putChar", "([BII)V"⟩ : MethodName)) (wd hw 109 rfl) (wd hw 110 rfl) (wd hw 69 rfl) (wd hw 111 rfl) (by decide) (Wd := 0) (CN.back (rmUPc3_0 l Z a0 hw b1 k1 c0 (0 : Int32) (0 : Int32) (0 : Int32) (0 : Int32) (0 : Int32) (0 : Int32) h1 W1.old hAD hHI hLO (by omega) V1) W1.warm (wd hw 111 rfl) (wd hw 69 rfl) (by decide) (by decide)) (by rw [hml]; rfl) [(.ref b1), (.int (0 : Int32)), (.int c0)] [] (lenOf pd3 rfl) rfl rfl (Nat.le_of_eq rfl) 23 (hb hby d19_20) rfl (by decide) (by decide) (hws1 (Or.inr (by omega)) safe0) ?_
  intro v2 T2 h2 W2 K2 Ch2 Q2
  have H2 := W2.here; have z2 := K2.1
  obtain ⟨rfl, V2⟩ := Q2
  show Goes p e below (PostN s Z h0 [] (QUTb3 Z pz kp c0 c1 c2 h0) ({ frames := 2, cells := 1, slots := 6, locals := 40 } : Room).cells ({ frames := 2, cells := 1, slots := 6, locals := 40 } : Room).slots) (T2.setTop (mkF m 23 #[.val (.ref pz), .val (.int (0 : Int32)), .val (.int (3 : Int32)), .val (.ref b1), .val (.int (0 : Int32))] []))
  refine G.iincX H2 hx 26 #[.val (.ref pz), .val (.int (1 : Int32)), .val (.int (3 : Int32)), .val (.ref b1), .val (.int (0 : Int32))] (hb hby d19_23) rfl (1 : Int32) rfl rfl rfl ?_
  refine G.iincX H2 hx 29 #[.val (.ref pz), .val (.int (1 : Int32)), .val (.int (3 : Int32)), .val (.ref b1), .val (.int (1 : Int32))] (hb hby d19_26) rfl (1 : Int32) rfl rfl rfl ?_
  refine G.goto H2 hx 8 (hb hby d19_29) (by decide) rfl ?_
  refine G.iload H2 hx 10 (hb hby d19_8) rfl rfl ?_
  refine G.iloadN H2 hx 11 (hb hby d19_10) rfl rfl ?_
  refine G.icmpN H2 hx 14 (hb hby d19_11) (tlt (by decide)).2.1 rfl ?_
  refine G.aloadN H2 hx 15 (hb hby d19_14) rfl rfl rfl ?_
  refine G.iload H2 hx 17 (hb hby d19_15) rfl rfl ?_
  refine G.aloadN H2 hx 18 (hb hby d19_17) rfl rfl rfl ?_
  refine G.iloadN H2 hx 19 (hb hby d19_18) rfl rfl ?_
  refine Wk.caload W2 hx ((Vp.keep K1 nin0).keep K2 (ninS (neA (by omega)) nin0)) ⟨by decide, by decide⟩ (.int c1) rfl 20 (hb hby d19_19) rfl ?_
  refine Wk.callS W2 hx hoZ (y := (⟨"java/lang/StringUTF16", "putChar", "([BII)V"⟩ : MethodName)) (wd hw 109 rfl) (wd hw 110 rfl) (wd hw 69 rfl) (wd hw 111 rfl) (by decide) (Wd := 0) (CN.back (rmUPc3_1 l Z a0 hw b1 k1 c1 (OwnKit.i2b c0) (OwnKit.i2b (c0 >>> ((8 : Int32) &&& 31))) (0 : Int32) (0 : Int32) (0 : Int32) (0 : Int32) h2 W2.old hAD hHI hLO (by omega) V2) W2.warm (wd hw 111 rfl) (wd hw 69 rfl) (by decide) (by decide)) (by rw [hml]; rfl) [(.ref b1), (.int (1 : Int32)), (.int c1)] [] (lenOf pd3 rfl) rfl rfl (Nat.le_of_eq rfl) 23 (hb hby d19_20) rfl (by decide) (by decide) (hws1 (Or.inr (by omega)) safe0) ?_
  intro v3 T3 h3 W3 K3 Ch3 Q3
  have H3 := W3.here; have z3 := K3.1
  obtain ⟨rfl, V3⟩ := Q3
  show Goes p e below (PostN s Z h0 [] (QUTb3 Z pz kp c0 c1 c2 h0) ({ frames := 2, cells := 1, slots := 6, locals := 40 } : Room).cells ({ frames := 2, cells := 1, slots := 6, locals := 40 } : Room).slots) (T3.setTop (mkF m 23 #[.val (.ref pz), .val (.int (1 : Int32)), .val (.int (3 : Int32)), .val (.ref b1), .val (.int (1 : Int32))] []))
  refine G.iincX H3 hx 26 #[.val (.ref pz), .val (.int (2 : Int32)), .val (.int (3 : Int32)), .val (.ref b1), .val (.int (1 : Int32))] (hb hby d19_23) rfl (1 : Int32) rfl rfl rfl ?_
  refine G.iincX H3 hx 29 #[.val (.ref pz), .val (.int (2 : Int32)), .val (.int (3 : Int32)), .val (.ref b1), .val (.int (2 : Int32))] (hb hby d19_26) rfl (1 : Int32) rfl rfl rfl ?_
  refine G.goto H3 hx 8 (hb hby d19_29) (by decide) rfl ?_
  refine G.iload H3 hx 10 (hb hby d19_8) rfl rfl ?_
  refine G.iloadN H3 hx 11 (hb hby d19_10) rfl rfl ?_
  refine G.icmpN H3 hx 14 (hb hby d19_11) (tlt (by decide)).2.1 rfl ?_
  refine G.aloadN H3 hx 15 (hb hby d19_14) rfl rfl rfl ?_
  refine G.iload H3 hx 17 (hb hby d19_15) rfl rfl ?_
  refine G.aloadN H3 hx 18 (hb hby d19_17) rfl rfl rfl ?_
  refine G.iloadN H3 hx 19 (hb hby d19_18) rfl rfl ?_
  refine Wk.caload W3 hx (((Vp.keep K1 nin0).keep K2 (ninS (neA (by omega)) nin0)).keep K3 (ninS (neA (by omega)) nin0)) ⟨by decide, by decide⟩ (.int c2) rfl 20 (hb hby d19_19) rfl ?_
  refine Wk.callS W3 hx hoZ (y := (⟨"java/lang/StringUTF16", "putChar", "([BII)V"⟩ : MethodName)) (wd hw 109 rfl) (wd hw 110 rfl) (wd hw 69 rfl) (wd hw 111 rfl) (by decide) (Wd := 0) (CN.back (rmUPc3_2 l Z a0 hw b1 k1 c2 (OwnKit.i2b c0) (OwnKit.i2b (c0 >>> ((8 : Int32) &&& 31))) (OwnKit.i2b c1) (OwnKit.i2b (c1 >>> ((8 : Int32) &&& 31))) (0 : Int32) (0 : Int32) h3 W3.old hAD hHI hLO (by omega) V3) W3.warm (wd hw 111 rfl) (wd hw 69 rfl) (by decide) (by decide)) (by rw [hml]; rfl) [(.ref b1), (.int (2 : Int32)), (.int c2)] [] (lenOf pd3 rfl) rfl rfl (Nat.le_of_eq rfl) 23 (hb hby d19_20) rfl (by decide) (by decide) (hws1 (Or.inr (by omega)) safe0) ?_
  intro v4 T4 h4 W4 K4 Ch4 Q4
  have H4 := W4.here; have z4 := K4.1
  obtain ⟨rfl, V4⟩ := Q4
  show Goes p e below (PostN s Z h0 [] (QUTb3 Z pz kp c0 c1 c2 h0) ({ frames := 2, cells := 1, slots := 6, locals := 40 } : Room).cells ({ frames := 2, cells := 1, slots := 6, locals := 40 } : Room).slots) (T4.setTop (mkF m 23 #[.val (.ref pz), .val (.int (2 : Int32)), .val (.int (3 : Int32)), .val (.ref b1), .val (.int (2 : Int32))] []))
  refine G.iincX H4 hx 26 #[.val (.ref pz), .val (.int (3 : Int32)), .val (.int (3 : Int32)), .val (.ref b1), .val (.int (2 : Int32))] (hb hby d19_23) rfl (1 : Int32) rfl rfl rfl ?_
  refine G.iincX H4 hx 29 #[.val (.ref pz), .val (.int (3 : Int32)), .val (.int (3 : Int32)), .val (.ref b1), .val (.int (3 : Int32))] (hb hby d19_26) rfl (1 : Int32) rfl rfl rfl ?_
  refine G.goto H4 hx 8 (hb hby d19_29) (by decide) rfl ?_
  refine G.iload H4 hx 10 (hb hby d19_8) rfl rfl ?_
  refine G.iloadN H4 hx 11 (hb hby d19_10) rfl rfl ?_
  refine G.icmpY H4 hx 32 (hb hby d19_11) (flt (by decide)).2.1 (by decide) rfl ?_
  refine G.aloadN H4 hx 33 (hb hby d19_32) rfl rfl rfl ?_
  exact Wk.retA W4 hx (t := (.array .byte)) rfl rfl hret hlk (hb hby d19_33) (by decide) (by decide) ⟨_, _, rfl, by omega, V4⟩
def QUC3_3 (Z : State) (pz : Addr) (kp : ClassId) (c0 : Int32) (c1 : Int32) (c2 : Int32) (h0 : Heap) : Option Value → Heap → Prop := fun v h => ∃ (b : Addr) (k : ClassId), v = some (.ref b) ∧ h0.size ≤ b ∧ Arv Z h b k .byte 6 [(.int (OwnKit.i2b c0)), (.int (OwnKit.i2b (c0 >>> ((8 : Int32) &&& 31)))), (.int (OwnKit.i2b c1)), (.int (OwnKit.i2b (c1 >>> ((8 : Int32) &&& 31)))), (.int (OwnKit.i2b c2)), (.int (OwnKit.i2b (c2 >>> ((8 : Int32) &&& 31))))] (.int 0)
set_option maxRecDepth 65536 in
set_option maxHeartbeats 40000000 in
theorem rmUC3_3 (l : Launch) (Z : State) (a0 : Array Value) (hw : ∀ d ∈ tables_1, d.before a0 Z = true) (pz : Addr) (kp : ClassId) (c0 : Int32) (c1 : Int32) (c2 : Int32) (h0 : Heap) (O : Ext Z.heap h0) (hAD : Sta Z Z.heap "java/lang/StringUTF16" "$assertionsDisabled" "Z" (.int 1)) (hHI : Sta Z Z.heap "java/lang/StringUTF16" "HI_BYTE_SHIFT" "I" (.int 0)) (hLO : Sta Z Z.heap "java/lang/StringUTF16" "LO_BYTE_SHIFT" "I" (.int 8)) (w0 : C16 c0) (w1 : C16 c1) (w2 : C16 c2) (hall : ¬ (¬ (255 : Int32) < c0 ∧ ¬ (255 : Int32) < c1 ∧ ¬ (255 : Int32) < c2)) (Vp : Arv Z h0 pz kp .char 3 [(.int c0), (.int c1), (.int c2)] (.int 0)) :
    CN [] l Z (⟨"java/lang/StringUTF16", "compress", "([CII)[B"⟩ : MethodName) jdk_52_method_16_code 6 (Option.some (Jvm.ClassFile.FieldType.array Jvm.ClassFile.FieldType.byte)) ({ frames := 3, cells := 2, slots := 9, locals := 70 } : Room) #[(.ref pz), (.int (0 : Int32)), (.int (3 : Int32))] h0 [] (QUC3_3 Z pz kp c0 c1 c2 h0) := by
  refine CN.of_walk (plainFor_of_name pn2) O (fun _ q => nomatch q) ?_
  intro p e s m below meth c T0 W0 hx hby hml hoZ hnm hret hlk
  have H0 := W0.here; have hz0 := W0.zsize
  refine Goes.cast (ef8 m pz (0 : Int32) (3 : Int32)) ?_
  have lp := ltN Vp.lt
  refine G.iloadN H0 hx 1 (hb hby d11_0) rfl rfl ?_
  refine Wk.newP W0 hx (wd hw 15 rfl) 3 (hb hby d11_1) (by decide) 3 (by decide) rfl (by decide) (by decide) (by decide) ?_
  intro T1 h1 a1 k1 W1 E1 g1 V1 S1
  have H1 := W1.here; have z1 := E1.1; have gu1 := Nat.le_of_eq g1; have gt1 := Nat.le_of_eq g1.symm; have l1 := ltN V1.lt
  have V1 : Arv Z h1 a1 k1 .byte (3 : Int32) [(.int (0 : Int32)), (.int (0 : Int32)), (.int (0 : Int32))] (.int (0 : Int32)) := V1
  refine G.astoreN H1 hx 4 #[.val (.ref pz), .val (.int (0 : Int32)), .val (.int (3 : Int32)), .val (.ref a1), .unset, .unset] (hb hby d11_3) rfl rfl rfl ?_
  refine G.aloadN H1 hx 5 (hb hby d11_4) rfl rfl rfl ?_
  refine G.iloadN H1 hx 6 (hb hby d11_5) rfl rfl ?_
  refine G.aloadN H1 hx 7 (hb hby d11_6) rfl rfl rfl ?_
  refine G.iconst H1 hx 8 (0 : Int32) (hb hby d11_7) rfl rfl ?_
  refine G.iloadN H1 hx 9 (hb hby d11_8) rfl rfl ?_
  refine Wk.callS W1 hx hoZ (y := (⟨"java/lang/StringUTF16", "compress", "([CI[BII)I"⟩ : MethodName)) (wd hw 71 rfl) (wd hw 72 rfl) (wd hw 69 rfl) (wd hw 73 rfl) (by decide) (Wd := 0) (CN.back (rmUCm3 l Z a0 hw pz kp c0 c1 c2 a1 k1 h1 W1.old (Vp.ext E1) (by omega) V1 (neA (by omega))) W1.warm (wd hw 73 rfl) (wd hw 69 rfl) (by decide) (by decide)) (by rw [hml]; rfl) [(.ref pz), (.int (0 : Int32)), (.ref a1), (.int (0 : Int32)), (.int (3 : Int32))] [] (lenOf pd4 rfl) rfl rfl (Nat.le_of_eq rfl) 12 (hb hby d11_9) rfl (by decide) (by decide) (hws1 (Or.inr (by omega)) safe0) ?_
  intro v2 T2 h2 W2 K2 Ch2 Q2
  have H2 := W2.here; have z2 := K2.1
  obtain rfl : _ = _ := Q2
  show Goes p e below (PostN s Z h0 [] (QUC3_3 Z pz kp c0 c1 c2 h0) ({ frames := 3, cells := 2, slots := 9, locals := 70 } : Room).cells ({ frames := 3, cells := 2, slots := 9, locals := 70 } : Room).slots) (T2.setTop (mkF m 12 #[.val (.ref pz), .val (.int (0 : Int32)), .val (.int (3 : Int32)), .val (.ref a1), .unset, .unset] [(.int (if (255 : Int32) < c0 then (0 : Int32) else (if (255 : Int32) < c1 then (1 : Int32) else (if (255 : Int32) < c2 then (2 : Int32) else (3 : Int32)))))]))
  by_cases e0 : (255 : Int32) < c0
  ·
    rw [if_pos e0]
    refine G.istoreX H2 hx 14 #[.val (.ref pz), .val (.int (0 : Int32)), .val (.int (3 : Int32)), .val (.ref a1), .val (.int (0 : Int32)), .unset] (hb hby d11_12) rfl rfl ?_
    refine G.iload H2 hx 16 (hb hby d11_14) rfl rfl ?_
    refine G.iloadN H2 hx 17 (hb hby d11_16) rfl rfl ?_
    refine G.icmpN H2 hx 20 (hb hby d11_17) (feq (by decide)).1 rfl ?_
    refine G.aloadN H2 hx 21 (hb hby d11_20) rfl rfl rfl ?_
    refine G.iloadN H2 hx 22 (hb hby d11_21) rfl rfl ?_
    refine G.iloadN H2 hx 23 (hb hby d11_22) rfl rfl ?_
    refine Wk.callS W2 hx hoZ (y := (⟨"java/lang/StringUTF16", "toBytes", "([CII)[B"⟩ : MethodName)) (wd hw 99 rfl) (wd hw 100 rfl) (wd hw 69 rfl) (wd hw 101 rfl) (by decide) (Wd := 0) (CN.back (rmUTb3 l Z a0 hw pz kp c0 c1 c2 h2 W2.old hAD hHI hLO ((Vp.ext E1).keep K2 (ninS (neA (by omega)) nin0))) W2.warm (wd hw 101 rfl) (wd hw 69 rfl) (by decide) (by decide)) (by rw [hml]; rfl) [(.ref pz), (.int (0 : Int32)), (.int (3 : Int32))] [] (lenOf pd5 rfl) rfl rfl (Nat.le_of_eq rfl) 26 (hb hby d11_23) rfl (by decide) (by decide) (fun _ q => nomatch q) ?_
    intro v3 T3 h3 W3 K3 Ch3 Q3
    have H3 := W3.here; have z3 := K3.1
    obtain ⟨b3, k3, rfl, g3, V3⟩ := Q3; have l3 := ltN V3.lt
    show Goes p e below (PostN s Z h0 [] (QUC3_3 Z pz kp c0 c1 c2 h0) ({ frames := 3, cells := 2, slots := 9, locals := 70 } : Room).cells ({ frames := 3, cells := 2, slots := 9, locals := 70 } : Room).slots) (T3.setTop (mkF m 26 #[.val (.ref pz), .val (.int (0 : Int32)), .val (.int (3 : Int32)), .val (.ref a1), .val (.int (0 : Int32)), .unset] [(.ref b3)]))
    refine G.astore H3 hx 28 #[.val (.ref pz), .val (.int (0 : Int32)), .val (.int (3 : Int32)), .val (.ref a1), .val (.int (0 : Int32)), .val (.ref b3)] (hb hby d11_26) rfl rfl rfl ?_
    refine G.aload H3 hx 30 (hb hby d11_28) rfl rfl rfl ?_
    refine G.iload H3 hx 32 (hb hby d11_30) rfl rfl ?_
    refine Wk.callS W3 hx hoZ (y := (⟨"java/lang/StringUTF16", "getChar", "([BI)C"⟩ : MethodName)) (wd hw 115 rfl) (wd hw 116 rfl) (wd hw 69 rfl) (wd hw 117 rfl) (by decide) (Wd := 0) (CN.back (rmUGc3_0 l Z a0 hw b3 k3 (OwnKit.i2b c0) (OwnKit.i2b (c0 >>> ((8 : Int32) &&& 31))) (OwnKit.i2b c1) (OwnKit.i2b (c1 >>> ((8 : Int32) &&& 31))) (OwnKit.i2b c2) (OwnKit.i2b (c2 >>> ((8 : Int32) &&& 31))) h3 W3.old hAD hHI hLO V3) W3.warm (wd hw 117 rfl) (wd hw 69 rfl) (by decide) (by decide)) (by rw [hml]; rfl) [(.ref b3), (.int (0 : Int32))] [] (lenOf pd6 rfl) rfl rfl (Nat.le_of_eq rfl) 35 (hb hby d11_32) rfl (by decide) (by decide) (fun _ q => nomatch q) ?_
    intro v4 T4 h4 W4 K4 Ch4 Q4
    have H4 := W4.here; have z4 := K4.1
    obtain ⟨rfl, eh4⟩ := Q4
    show Goes p e below (PostN s Z h0 [] (QUC3_3 Z pz kp c0 c1 c2 h0) ({ frames := 3, cells := 2, slots := 9, locals := 70 } : Room).cells ({ frames := 3, cells := 2, slots := 9, locals := 70 } : Room).slots) (T4.setTop (mkF m 35 #[.val (.ref pz), .val (.int (0 : Int32)), .val (.int (3 : Int32)), .val (.ref a1), .val (.int (0 : Int32)), .val (.ref b3)] [(.int (OwnKit.i2c ((((OwnKit.i2b c0) &&& (255 : Int32)) <<< ((0 : Int32) &&& 31)) ||| (((OwnKit.i2b (c0 >>> ((8 : Int32) &&& 31))) &&& (255 : Int32)) <<< ((8 : Int32) &&& 31)))))]))
    rw [pair16 w0]
    show Goes p e below (PostN s Z h0 [] (QUC3_3 Z pz kp c0 c1 c2 h0) ({ frames := 3, cells := 2, slots := 9, locals := 70 } : Room).cells ({ frames := 3, cells := 2, slots := 9, locals := 70 } : Room).slots) (T4.setTop (mkF m 35 #[.val (.ref pz), .val (.int (0 : Int32)), .val (.int (3 : Int32)), .val (.ref a1), .val (.int (0 : Int32)), .val (.ref b3)] [(.int c0)]))
    refine G.sipush H4 hx 38 (255 : Int32) (hb hby d11_35) rfl rfl ?_
    refine G.icmpY H4 hx 54 (hb hby d11_38) (tlt e0).2.2.1 (by decide) rfl ?_
    refine G.aload H4 hx 56 (hb hby d11_54) rfl rfl rfl ?_
    exact Wk.retA W4 hx (t := (.array .byte)) rfl rfl hret hlk (hb hby d11_56) (by decide) (by decide) ⟨_, _, rfl, by omega, (V3.keep K4 nin0)⟩
  ·
    by_cases e1 : (255 : Int32) < c1
    ·
      rw [if_neg e0, if_pos e1]
      refine G.istoreX H2 hx 14 #[.val (.ref pz), .val (.int (0 : Int32)), .val (.int (3 : Int32)), .val (.ref a1), .val (.int (1 : Int32)), .unset] (hb hby d11_12) rfl rfl ?_
      refine G.iload H2 hx 16 (hb hby d11_14) rfl rfl ?_
      refine G.iloadN H2 hx 17 (hb hby d11_16) rfl rfl ?_
      refine G.icmpN H2 hx 20 (hb hby d11_17) (feq (by decide)).1 rfl ?_
      refine G.aloadN H2 hx 21 (hb hby d11_20) rfl rfl rfl ?_
      refine G.iloadN H2 hx 22 (hb hby d11_21) rfl rfl ?_
      refine G.iloadN H2 hx 23 (hb hby d11_22) rfl rfl ?_
      refine Wk.callS W2 hx hoZ (y := (⟨"java/lang/StringUTF16", "toBytes", "([CII)[B"⟩ : MethodName)) (wd hw 99 rfl) (wd hw 100 rfl) (wd hw 69 rfl) (wd hw 101 rfl) (by decide) (Wd := 0) (CN.back (rmUTb3 l Z a0 hw pz kp c0 c1 c2 h2 W2.old hAD hHI hLO ((Vp.ext E1).keep K2 (ninS (neA (by omega)) nin0))) W2.warm (wd hw 101 rfl) (wd hw 69 rfl) (by decide) (by decide)) (by rw [hml]; rfl) [(.ref pz), (.int (0 : Int32)), (.int (3 : Int32))] [] (lenOf pd5 rfl) rfl rfl (Nat.le_of_eq rfl) 26 (hb hby d11_23) rfl (by decide) (by decide) (fun _ q => nomatch q) ?_
      intro v5 T5 h5 W5 K5 Ch5 Q5
      have H5 := W5.here; have z5 := K5.1
      obtain ⟨b5, k5, rfl, g5, V5⟩ := Q5; have l5 := ltN V5.lt
      show Goes p e below (PostN s Z h0 [] (QUC3_3 Z pz kp c0 c1 c2 h0) ({ frames := 3, cells := 2, slots := 9, locals := 70 } : Room).cells ({ frames := 3, cells := 2, slots := 9, locals := 70 } : Room).slots) (T5.setTop (mkF m 26 #[.val (.ref pz), .val (.int (0 : Int32)), .val (.int (3 : Int32)), .val (.ref a1), .val (.int (1 : Int32)), .unset] [(.ref b5)]))
      refine G.astore H5 hx 28 #[.val (.ref pz), .val (.int (0 : Int32)), .val (.int (3 : Int32)), .val (.ref a1), .val (.int (1 : Int32)), .val (.ref b5)] (hb hby d11_26) rfl rfl rfl ?_
      refine G.aload H5 hx 30 (hb hby d11_28) rfl rfl rfl ?_
      refine G.iload H5 hx 32 (hb hby d11_30) rfl rfl ?_
      refine Wk.callS W5 hx hoZ (y := (⟨"java/lang/StringUTF16", "getChar", "([BI)C"⟩ : MethodName)) (wd hw 115 rfl) (wd hw 116 rfl) (wd hw 69 rfl) (wd hw 117 rfl) (by decide) (Wd := 0) (CN.back (rmUGc3_1 l Z a0 hw b5 k5 (OwnKit.i2b c0) (OwnKit.i2b (c0 >>> ((8 : Int32) &&& 31))) (OwnKit.i2b c1) (OwnKit.i2b (c1 >>> ((8 : Int32) &&& 31))) (OwnKit.i2b c2) (OwnKit.i2b (c2 >>> ((8 : Int32) &&& 31))) h5 W5.old hAD hHI hLO V5) W5.warm (wd hw 117 rfl) (wd hw 69 rfl) (by decide) (by decide)) (by rw [hml]; rfl) [(.ref b5), (.int (1 : Int32))] [] (lenOf pd6 rfl) rfl rfl (Nat.le_of_eq rfl) 35 (hb hby d11_32) rfl (by decide) (by decide) (fun _ q => nomatch q) ?_
      intro v6 T6 h6 W6 K6 Ch6 Q6
      have H6 := W6.here; have z6 := K6.1
      obtain ⟨rfl, eh6⟩ := Q6
      show Goes p e below (PostN s Z h0 [] (QUC3_3 Z pz kp c0 c1 c2 h0) ({ frames := 3, cells := 2, slots := 9, locals := 70 } : Room).cells ({ frames := 3, cells := 2, slots := 9, locals := 70 } : Room).slots) (T6.setTop (mkF m 35 #[.val (.ref pz), .val (.int (0 : Int32)), .val (.int (3 : Int32)), .val (.ref a1), .val (.int (1 : Int32)), .val (.ref b5)] [(.int (OwnKit.i2c ((((OwnKit.i2b c1) &&& (255 : Int32)) <<< ((0 : Int32) &&& 31)) ||| (((OwnKit.i2b (c1 >>> ((8 : Int32) &&& 31))) &&& (255 : Int32)) <<< ((8 : Int32) &&& 31)))))]))
      rw [pair16 w1]
      show Goes p e below (PostN s Z h0 [] (QUC3_3 Z pz kp c0 c1 c2 h0) ({ frames := 3, cells := 2, slots := 9, locals := 70 } : Room).cells ({ frames := 3, cells := 2, slots := 9, locals := 70 } : Room).slots) (T6.setTop (mkF m 35 #[.val (.ref pz), .val (.int (0 : Int32)), .val (.int (3 : Int32)), .val (.ref a1), .val (.int (1 : Int32)), .val (.ref b5)] [(.int c1)]))
      refine G.sipush H6 hx 38 (255 : Int32) (hb hby d11_35) rfl rfl ?_
      refine G.icmpY H6 hx 54 (hb hby d11_38) (tlt e1).2.2.1 (by decide) rfl ?_
      refine G.aload H6 hx 56 (hb hby d11_54) rfl rfl rfl ?_
      exact Wk.retA W6 hx (t := (.array .byte)) rfl rfl hret hlk (hb hby d11_56) (by decide) (by decide) ⟨_, _, rfl, by omega, (V5.keep K6 nin0)⟩
    ·
      by_cases e2 : (255 : Int32) < c2
      ·
        rw [if_neg e0, if_neg e1, if_pos e2]
        refine G.istoreX H2 hx 14 #[.val (.ref pz), .val (.int (0 : Int32)), .val (.int (3 : Int32)), .val (.ref a1), .val (.int (2 : Int32)), .unset] (hb hby d11_12) rfl rfl ?_
        refine G.iload H2 hx 16 (hb hby d11_14) rfl rfl ?_
        refine G.iloadN H2 hx 17 (hb hby d11_16) rfl rfl ?_
        refine G.icmpN H2 hx 20 (hb hby d11_17) (feq (by decide)).1 rfl ?_
        refine G.aloadN H2 hx 21 (hb hby d11_20) rfl rfl rfl ?_
        refine G.iloadN H2 hx 22 (hb hby d11_21) rfl rfl ?_
        refine G.iloadN H2 hx 23 (hb hby d11_22) rfl rfl ?_
        refine Wk.callS W2 hx hoZ (y := (⟨"java/lang/StringUTF16", "toBytes", "([CII)[B"⟩ : MethodName)) (wd hw 99 rfl) (wd hw 100 rfl) (wd hw 69 rfl) (wd hw 101 rfl) (by decide) (Wd := 0) (CN.back (rmUTb3 l Z a0 hw pz kp c0 c1 c2 h2 W2.old hAD hHI hLO ((Vp.ext E1).keep K2 (ninS (neA (by omega)) nin0))) W2.warm (wd hw 101 rfl) (wd hw 69 rfl) (by decide) (by decide)) (by rw [hml]; rfl) [(.ref pz), (.int (0 : Int32)), (.int (3 : Int32))] [] (lenOf pd5 rfl) rfl rfl (Nat.le_of_eq rfl) 26 (hb hby d11_23) rfl (by decide) (by decide) (fun _ q => nomatch q) ?_
        intro v7 T7 h7 W7 K7 Ch7 Q7
        have H7 := W7.here; have z7 := K7.1
        obtain ⟨b7, k7, rfl, g7, V7⟩ := Q7; have l7 := ltN V7.lt
        show Goes p e below (PostN s Z h0 [] (QUC3_3 Z pz kp c0 c1 c2 h0) ({ frames := 3, cells := 2, slots := 9, locals := 70 } : Room).cells ({ frames := 3, cells := 2, slots := 9, locals := 70 } : Room).slots) (T7.setTop (mkF m 26 #[.val (.ref pz), .val (.int (0 : Int32)), .val (.int (3 : Int32)), .val (.ref a1), .val (.int (2 : Int32)), .unset] [(.ref b7)]))
        refine G.astore H7 hx 28 #[.val (.ref pz), .val (.int (0 : Int32)), .val (.int (3 : Int32)), .val (.ref a1), .val (.int (2 : Int32)), .val (.ref b7)] (hb hby d11_26) rfl rfl rfl ?_
        refine G.aload H7 hx 30 (hb hby d11_28) rfl rfl rfl ?_
        refine G.iload H7 hx 32 (hb hby d11_30) rfl rfl ?_
        refine Wk.callS W7 hx hoZ (y := (⟨"java/lang/StringUTF16", "getChar", "([BI)C"⟩ : MethodName)) (wd hw 115 rfl) (wd hw 116 rfl) (wd hw 69 rfl) (wd hw 117 rfl) (by decide) (Wd := 0) (CN.back (rmUGc3_2 l Z a0 hw b7 k7 (OwnKit.i2b c0) (OwnKit.i2b (c0 >>> ((8 : Int32) &&& 31))) (OwnKit.i2b c1) (OwnKit.i2b (c1 >>> ((8 : Int32) &&& 31))) (OwnKit.i2b c2) (OwnKit.i2b (c2 >>> ((8 : Int32) &&& 31))) h7 W7.old hAD hHI hLO V7) W7.warm (wd hw 117 rfl) (wd hw 69 rfl) (by decide) (by decide)) (by rw [hml]; rfl) [(.ref b7), (.int (2 : Int32))] [] (lenOf pd6 rfl) rfl rfl (Nat.le_of_eq rfl) 35 (hb hby d11_32) rfl (by decide) (by decide) (fun _ q => nomatch q) ?_
        intro v8 T8 h8 W8 K8 Ch8 Q8
        have H8 := W8.here; have z8 := K8.1
        obtain ⟨rfl, eh8⟩ := Q8
        show Goes p e below (PostN s Z h0 [] (QUC3_3 Z pz kp c0 c1 c2 h0) ({ frames := 3, cells := 2, slots := 9, locals := 70 } : Room).cells ({ frames := 3, cells := 2, slots := 9, locals := 70 } : Room).slots) (T8.setTop (mkF m 35 #[.val (.ref pz), .val (.int (0 : Int32)), .val (.int (3 : Int32)), .val (.ref a1), .val (.int (2 : Int32)), .val (.ref b7)] [(.int (OwnKit.i2c ((((OwnKit.i2b c2) &&& (255 : Int32)) <<< ((0 : Int32) &&& 31)) ||| (((OwnKit.i2b (c2 >>> ((8 : Int32) &&& 31))) &&& (255 : Int32)) <<< ((8 : Int32) &&& 31)))))]))
        rw [pair16 w2]
        show Goes p e below (PostN s Z h0 [] (QUC3_3 Z pz kp c0 c1 c2 h0) ({ frames := 3, cells := 2, slots := 9, locals := 70 } : Room).cells ({ frames := 3, cells := 2, slots := 9, locals := 70 } : Room).slots) (T8.setTop (mkF m 35 #[.val (.ref pz), .val (.int (0 : Int32)), .val (.int (3 : Int32)), .val (.ref a1), .val (.int (2 : Int32)), .val (.ref b7)] [(.int c2)]))
        refine G.sipush H8 hx 38 (255 : Int32) (hb hby d11_35) rfl rfl ?_
        refine G.icmpY H8 hx 54 (hb hby d11_38) (tlt e2).2.2.1 (by decide) rfl ?_
        refine G.aload H8 hx 56 (hb hby d11_54) rfl rfl rfl ?_
        exact Wk.retA W8 hx (t := (.array .byte)) rfl rfl hret hlk (hb hby d11_56) (by decide) (by decide) ⟨_, _, rfl, by omega, (V7.keep K8 nin0)⟩
      ·
        exact absurd ⟨e0, e1, e2⟩ hall
def QUCl3 (Z : State) (b : Addr) (kb : ClassId) (u0 : Int32) (u1 : Int32) (u2 : Int32) (u3 : Int32) (u4 : Int32) (u5 : Int32) (h0 : Heap) : Option Value → Heap → Prop := fun v h => v = some (.int 1) ∧ h = h0
set_option maxRecDepth 65536 in
set_option maxHeartbeats 40000000 in
theorem rmUCl3 (l : Launch) (Z : State) (a0 : Array Value) (hw : ∀ d ∈ tables_1, d.before a0 Z = true) (b : Addr) (kb : ClassId) (u0 : Int32) (u1 : Int32) (u2 : Int32) (u3 : Int32) (u4 : Int32) (u5 : Int32) (h0 : Heap) (O : Ext Z.heap h0) (Vb : Arv Z h0 b kb .byte 6 [(.int u0), (.int u1), (.int u2), (.int u3), (.int u4), (.int u5)] (.int 0)) :
    CN [] l Z (⟨"java/lang/StringUTF16", "coderFromArrayLen", "([BI)B"⟩ : MethodName) jdk_52_method_15_code 2 (Option.some Jvm.ClassFile.FieldType.byte) ({ frames := 0, cells := 0, slots := 0, locals := 0 } : Room) #[(.ref b), (.int (3 : Int32))] h0 [] (QUCl3 Z b kb u0 u1 u2 u3 u4 u5 h0) := by
  refine CN.of_walk (plainFor_of_name pn2) O (fun _ q => nomatch q) ?_
  intro p e s m below meth c T0 W0 hx hby hml hoZ hnm hret hlk
  have H0 := W0.here; have hz0 := W0.zsize
  refine Goes.cast (ef4 m b (3 : Int32)) ?_
  refine G.iloadN H0 hx 1 (hb hby d13_0) rfl rfl ?_
  refine G.aloadN H0 hx 2 (hb hby d13_1) rfl rfl rfl ?_
  refine Wk.arraylength W0 hx Vb 3 (hb hby d13_2) rfl ?_
  refine G.isubF H0 hx 4 (-3 : Int32) (hb hby d13_3) (by decide) rfl ?_
  refine G.bipush H0 hx 6 (31 : Int32) (hb hby d13_4) rfl rfl ?_
  refine G.iushrF H0 hx 7 (1 : Int32) (hb hby d13_6) (by decide) rfl ?_
  refine G.i2b H0 hx 8 (hb hby d13_7) rfl ?_
  exact Wk.retN W0 hx (1 : Int32) (t := .byte) (by decide) (by simp) hret hlk (hb hby d13_8) (by decide) (by decide) ⟨rfl, rfl⟩
def QUN4_3 (Z : State) (cz : Int32) (a : Addr) (pz : Addr) (kp : ClassId) (c0 : Int32) (c1 : Int32) (c2 : Int32) (h0 : Heap) : Option Value → Heap → Prop := fun v h => v = none ∧ Exa Z h a "java/lang/String" ∧ Fld Z h a "java/lang/String" "coder" "B" (.int 1) ∧ ∃ (b : Addr) (k : ClassId), Fld Z h a "java/lang/String" "value" "[B" (.ref b) ∧ Arv Z h b k .byte 6 [(.int (OwnKit.i2b c0)), (.int (OwnKit.i2b (c0 >>> ((8 : Int32) &&& 31)))), (.int (OwnKit.i2b c1)), (.int (OwnKit.i2b (c1 >>> ((8 : Int32) &&& 31)))), (.int (OwnKit.i2b c2)), (.int (OwnKit.i2b (c2 >>> ((8 : Int32) &&& 31))))] (.int 0)
set_option maxRecDepth 65536 in
set_option maxHeartbeats 40000000 in
theorem rmUN4_3 (l : Launch) (Z : State) (a0 : Array Value) (hw : ∀ d ∈ tables_1, d.before a0 Z = true) (cz : Int32) (a : Addr) (pz : Addr) (kp : ClassId) (c0 : Int32) (c1 : Int32) (c2 : Int32) (h0 : Heap) (O : Ext Z.heap h0) (hCS : Sta Z Z.heap "java/lang/String" "COMPACT_STRINGS" "Z" (.int cz)) (hcz : ¬ cz = 0) (hAD : Sta Z Z.heap "java/lang/StringUTF16" "$assertionsDisabled" "Z" (.int 1)) (hHI : Sta Z Z.heap "java/lang/StringUTF16" "HI_BYTE_SHIFT" "I" (.int 0)) (hLO : Sta Z Z.heap "java/lang/StringUTF16" "LO_BYTE_SHIFT" "I" (.int 8)) (w0 : C16 c0) (w1 : C16 c1) (w2 : C16 c2) (hall : ¬ (¬ (255 : Int32) < c0 ∧ ¬ (255 : Int32) < c1 ∧ ¬ (255 : Int32) < c2)) (Vp : Arv Z h0 pz kp .char 3 [(.int c0), (.int c1), (.int c2)] (.int 0)) (gz_a : Z.heap.size ≤ a) (Ea : Exa Z h0 a "java/lang/String") (Fv : Fld Z h0 a "java/lang/String" "value" "[B" .null) (Fc : Fld Z h0 a "java/lang/String" "coder" "B" (.int 0)) :
    CN [] l Z (⟨"java/lang/String", "<init>", "([CIILjava/lang/Void;)V"⟩ : MethodName) jdk_42_method_149_code 6 (Option.none : Option Jvm.ClassFile.FieldType) ({ frames := 4, cells := 2, slots := 9, locals := 100 } : Room) #[(.ref a), (.ref pz), (.int (0 : Int32)), (.int (3 : Int32)), .null] h0 [a] (QUN4_3 Z cz a pz kp c0 c1 c2 h0) := by
  refine CN.of_walk (plainFor_of_name pn0) O (ala gz_a ala0) ?_
  intro p e s m below meth c T0 W0 hx hby hml hoZ hnm hret hlk
  have H0 := W0.here; have hz0 := W0.zsize
  refine Goes.cast (ef0 m a pz (0 : Int32) (3 : Int32)) ?_
  have lp := ltN Vp.lt
  have la := ltN Ea.lt
  refine G.aloadN H0 hx 1 (hb hby d2_0) rfl rfl rfl ?_
  refine Wk.initO W0 hx hoZ (wd hw 11 rfl) (wd hw 12 rfl) (wd hw 13 rfl) (by rw [hml]; rfl) 4 (hb hby d2_1) rfl (by decide) 0 (Nat.le_of_eq rfl) (by decide) ?_
  intro T1 W1; have H1 := W1.here
  refine G.iloadN H1 hx 5 (hb hby d2_4) rfl rfl ?_
  refine G.ifY H1 hx 27 (hb hby d2_5) (zne (by decide)).2 (by decide) rfl ?_
  refine Wk.getS W1 hx hoZ (wd hw 65 rfl) Via.refl (hCS.ext W1.old) 30 (hb hby d2_27) rfl ?_
  intro T2 W2; have H2 := W2.here
  refine G.ifN H2 hx 33 (hb hby d2_30) (zne hcz).1 rfl ?_
  refine G.aloadN H2 hx 34 (hb hby d2_33) rfl rfl rfl ?_
  refine G.iloadN H2 hx 35 (hb hby d2_34) rfl rfl ?_
  refine G.iloadN H2 hx 36 (hb hby d2_35) rfl rfl ?_
  refine Wk.callS W2 hx hoZ (y := (⟨"java/lang/StringUTF16", "compress", "([CII)[B"⟩ : MethodName)) (wd hw 67 rfl) (wd hw 68 rfl) (wd hw 69 rfl) (wd hw 70 rfl) (by decide) (Wd := 0) (CN.back (rmUC3_3 l Z a0 hw pz kp c0 c1 c2 h0 W2.old hAD hHI hLO w0 w1 w2 hall Vp) W2.warm (wd hw 70 rfl) (wd hw 69 rfl) (by decide) (by decide)) (by rw [hml]; rfl) [(.ref pz), (.int (0 : Int32)), (.int (3 : Int32))] [] (lenOf pd5 rfl) rfl rfl (Nat.le_of_eq rfl) 39 (hb hby d2_36) rfl (by decide) (by decide) (fun _ q => nomatch q) ?_
  intro v3 T3 h3 W3 K3 Ch3 Q3
  have H3 := W3.here; have z3 := K3.1
  obtain ⟨b3, k3, rfl, g3, V3⟩ := Q3; have l3 := ltN V3.lt
  show Goes p e below (PostN s Z h0 [a] (QUN4_3 Z cz a pz kp c0 c1 c2 h0) ({ frames := 4, cells := 2, slots := 9, locals := 100 } : Room).cells ({ frames := 4, cells := 2, slots := 9, locals := 100 } : Room).slots) (T3.setTop (mkF m 39 #[.val (.ref a), .val (.ref pz), .val (.int (0 : Int32)), .val (.int (3 : Int32)), .val .null, .unset] [(.ref b3)]))
  refine G.astore H3 hx 41 #[.val (.ref a), .val (.ref pz), .val (.int (0 : Int32)), .val (.int (3 : Int32)), .val .null, .val (.ref b3)] (hb hby d2_39) rfl rfl rfl ?_
  refine G.aloadN H3 hx 42 (hb hby d2_41) rfl rfl rfl ?_
  refine G.aload H3 hx 44 (hb hby d2_42) rfl rfl rfl ?_
  refine G.iloadN H3 hx 45 (hb hby d2_44) rfl rfl ?_
  refine Wk.callS W3 hx hoZ (y := (⟨"java/lang/StringUTF16", "coderFromArrayLen", "([BI)B"⟩ : MethodName)) (wd hw 74 rfl) (wd hw 75 rfl) (wd hw 69 rfl) (wd hw 76 rfl) (by decide) (Wd := 1) (CN.back (rmUCl3 l Z a0 hw b3 k3 (OwnKit.i2b c0) (OwnKit.i2b (c0 >>> ((8 : Int32) &&& 31))) (OwnKit.i2b c1) (OwnKit.i2b (c1 >>> ((8 : Int32) &&& 31))) (OwnKit.i2b c2) (OwnKit.i2b (c2 >>> ((8 : Int32) &&& 31))) h3 W3.old V3) W3.warm (wd hw 76 rfl) (wd hw 69 rfl) (by decide) (by decide)) (by rw [hml]; rfl) [(.ref b3), (.int (3 : Int32))] [(.ref a)] (lenOf pd7 rfl) rfl rfl (Nat.le_of_eq rfl) 48 (hb hby d2_45) rfl (by decide) (by decide) (fun _ q => nomatch q) ?_
  intro v4 T4 h4 W4 K4 Ch4 Q4
  have H4 := W4.here; have z4 := K4.1
  obtain ⟨rfl, eh4⟩ := Q4
  show Goes p e below (PostN s Z h0 [a] (QUN4_3 Z cz a pz kp c0 c1 c2 h0) ({ frames := 4, cells := 2, slots := 9, locals := 100 } : Room).cells ({ frames := 4, cells := 2, slots := 9, locals := 100 } : Room).slots) (T4.setTop (mkF m 48 #[.val (.ref a), .val (.ref pz), .val (.int (0 : Int32)), .val (.int (3 : Int32)), .val .null, .val (.ref b3)] [(.int (1 : Int32)), (.ref a)]))
  refine Wk.putF W4 hx hoZ (wd hw 21 rfl) Via.refl (.int (1 : Int32)) ((Fc.keep K3 nin0).keep K4 nin0) ((Ea.keep K3).keep K4) (Or.inr ⟨(wd hw 17 rfl), rfl, hnm⟩) (wd hw 2 rfl) (ty := .byte) (by decide) rfl rfl (Or.inl (by simp)) safe0 51 (hb hby d2_48) rfl ?_
  intro T5 h5 W5 R5 Ch5; have H5 := W5.here; have z5 := R5.size
  have F5 := (((Fc.keep K3 nin0).keep K4 nin0)).same R5
  refine G.aloadN H5 hx 52 (hb hby d2_51) rfl rfl rfl ?_
  refine G.aload H5 hx 54 (hb hby d2_52) rfl rfl rfl ?_
  refine Wk.putF W5 hx hoZ (wd hw 20 rfl) Via.refl (.ref b3) (((Fv.keep K3 nin0).keep K4 nin0).other R5 (Or.inr (slot_ne (Or.inr (wd hw 16 rfl)) (Or.inr (wd hw 17 rfl)) (by decide) (t := (.array .byte)) (t' := .byte) (by decide) (by decide)))) (((Ea.keep K3).keep K4).wr R5) (Or.inr ⟨(wd hw 16 rfl), rfl, hnm⟩) (wd hw 2 rfl) (ty := (.array .byte)) (by decide) rfl rfl (Or.inl (by simp)) safe0 57 (hb hby d2_54) rfl ?_
  intro T6 h6 W6 R6 Ch6; have H6 := W6.here; have z6 := R6.size
  have F6 := ((((Fv.keep K3 nin0).keep K4 nin0).other R5 (Or.inr (slot_ne (Or.inr (wd hw 16 rfl)) (Or.inr (wd hw 17 rfl)) (by decide) (t := (.array .byte)) (t' := .byte) (by decide) (by decide))))).same R6
  exact Wk.retV W6 hx hret hlk (hb hby d2_57) (by decide) (by decide) ⟨rfl, ((((Ea.keep K3).keep K4).wr R5).wr R6), (F5.other R6 (Or.inr (slot_ne (Or.inr (wd hw 17 rfl)) (Or.inr (wd hw 16 rfl)) (by decide) (t := .byte) (t' := (.array .byte)) (by decide) (by decide)))), _, _, F6, (((V3.keep K4 nin0).other R5 (neA (by omega))).other R6 (neA (by omega)))⟩
def QUN1_3 (Z : State) (cz : Int32) (a : Addr) (pz : Addr) (kp : ClassId) (c0 : Int32) (c1 : Int32) (c2 : Int32) (h0 : Heap) : Option Value → Heap → Prop := fun v h => v = none ∧ Exa Z h a "java/lang/String" ∧ Fld Z h a "java/lang/String" "coder" "B" (.int 1) ∧ ∃ (b : Addr) (k : ClassId), Fld Z h a "java/lang/String" "value" "[B" (.ref b) ∧ Arv Z h b k .byte 6 [(.int (OwnKit.i2b c0)), (.int (OwnKit.i2b (c0 >>> ((8 : Int32) &&& 31)))), (.int (OwnKit.i2b c1)), (.int (OwnKit.i2b (c1 >>> ((8 : Int32) &&& 31)))), (.int (OwnKit.i2b c2)), (.int (OwnKit.i2b (c2 >>> ((8 : Int32) &&& 31))))] (.int 0)
set_option maxRecDepth 65536 in
set_option maxHeartbeats 40000000 in
theorem rmUN1_3 (l : Launch) (Z : State) (a0 : Array Value) (hw : ∀ d ∈ tables_1, d.before a0 Z = true) (cz : Int32) (a : Addr) (pz : Addr) (kp : ClassId) (c0 : Int32) (c1 : Int32) (c2 : Int32) (h0 : Heap) (O : Ext Z.heap h0) (hCS : Sta Z Z.heap "java/lang/String" "COMPACT_STRINGS" "Z" (.int cz)) (hcz : ¬ cz = 0) (hAD : Sta Z Z.heap "java/lang/StringUTF16" "$assertionsDisabled" "Z" (.int 1)) (hHI : Sta Z Z.heap "java/lang/StringUTF16" "HI_BYTE_SHIFT" "I" (.int 0)) (hLO : Sta Z Z.heap "java/lang/StringUTF16" "LO_BYTE_SHIFT" "I" (.int 8)) (w0 : C16 c0) (w1 : C16 c1) (w2 : C16 c2) (hall : ¬ (¬ (255 : Int32) < c0 ∧ ¬ (255 : Int32) < c1 ∧ ¬ (255 : Int32) < c2)) (Vp : Arv Z h0 pz kp .char 3 [(.int c0), (.int c1), (.int c2)] (.int 0)) (gz_a : Z.heap.size ≤ a) (Ea : Exa Z h0 a "java/lang/String") (Fv : Fld Z h0 a "java/lang/String" "value" "[B" .null) (Fc : Fld Z h0 a "java/lang/String" "coder" "B" (.int 0)) :
    CN [] l Z (⟨"java/lang/String", "<init>", "([C)V"⟩ : MethodName) jdk_42_method_3_code 2 (Option.none : Option Jvm.ClassFile.FieldType) ({ frames := 5, cells := 2, slots := 9, locals := 125 } : Room) #[(.ref a), (.ref pz)] h0 [a] (QUN1_3 Z cz a pz kp c0 c1 c2 h0) := by
  refine CN.of_walk (plainFor_of_name pn0) O (ala gz_a ala0) ?_
  intro p e s m below meth c T0 W0 hx hby hml hoZ hnm hret hlk
  have H0 := W0.here; have hz0 := W0.zsize
  refine Goes.cast (ef1 m a pz) ?_
  have lp := ltN Vp.lt
  have la := ltN Ea.lt
  refine G.aloadN H0 hx 1 (hb hby d1_0) rfl rfl rfl ?_
  refine G.aloadN H0 hx 2 (hb hby d1_1) rfl rfl rfl ?_
  refine G.iconst H0 hx 3 (0 : Int32) (hb hby d1_2) rfl rfl ?_
  refine G.aloadN H0 hx 4 (hb hby d1_3) rfl rfl rfl ?_
  refine Wk.arraylength W0 hx Vp 5 (hb hby d1_4) rfl ?_
  refine G.aconstNull H0 hx 6 (hb hby d1_5) rfl ?_
  refine Wk.special W0 hx hoZ (y := (⟨"java/lang/String", "<init>", "([CIILjava/lang/Void;)V"⟩ : MethodName)) rfl (wd hw 7 rfl) (wd hw 8 rfl) (wd hw 10 rfl) (by decide) (Wd := 0) (CN.back (rmUN4_3 l Z a0 hw cz a pz kp c0 c1 c2 h0 W0.old hCS hcz hAD hHI hLO w0 w1 w2 hall Vp (by omega) Ea Fv Fc) W0.warm (wd hw 10 rfl) (wd hw 3 rfl) (by decide) (by decide)) a (by rw [hml]; rfl) [(.ref pz), (.int (0 : Int32)), (.int (3 : Int32)), .null] [] (lenOf pd0 rfl) rfl rfl (Nat.le_of_eq rfl) 9 (hb hby d1_6) rfl (by decide) (by decide) (hws1 (Or.inl (by simp)) safe0) ?_
  intro v1 T1 h1 W1 K1 Ch1 Q1
  have H1 := W1.here; have z1 := K1.1
  obtain ⟨rfl, X1, F1c, b1, k1, F1v, V1⟩ := Q1; have l1 := ltN V1.lt
  show Goes p e below (PostN s Z h0 [a] (QUN1_3 Z cz a pz kp c0 c1 c2 h0) ({ frames := 5, cells := 2, slots := 9, locals := 125 } : Room).cells ({ frames := 5, cells := 2, slots := 9, locals := 125 } : Room).slots) (T1.setTop (mkF m 9 #[.val (.ref a), .val (.ref pz)] []))
  exact Wk.retV W1 hx hret hlk (hb hby d1_9) (by decide) (by decide) ⟨rfl, X1, F1c, _, _, F1v, V1⟩
def QUSl3 (Z : State) (cz : Int32) (a : Addr) (b : Addr) (kb : ClassId) (c0 : Int32) (c1 : Int32) (c2 : Int32) (h0 : Heap) : Option Value → Heap → Prop := fun v h => v = some (.int 3) ∧ h = h0
set_option maxRecDepth 65536 in
set_option maxHeartbeats 40000000 in
theorem rmUSl3 (l : Launch) (Z : State) (a0 : Array Value) (hw : ∀ d ∈ tables_1, d.before a0 Z = true) (cz : Int32) (a : Addr) (b : Addr) (kb : ClassId) (c0 : Int32) (c1 : Int32) (c2 : Int32) (h0 : Heap) (O : Ext Z.heap h0) (hCS : Sta Z Z.heap "java/lang/String" "COMPACT_STRINGS" "Z" (.int cz)) (hcz : ¬ cz = 0) (Ea : Exa Z h0 a "java/lang/String") (Fc : Fld Z h0 a "java/lang/String" "coder" "B" (.int 1)) (Fv : Fld Z h0 a "java/lang/String" "value" "[B" (.ref b)) (Vb : Arv Z h0 b kb .byte 6 [(.int (OwnKit.i2b c0)), (.int (OwnKit.i2b (c0 >>> ((8 : Int32) &&& 31)))), (.int (OwnKit.i2b c1)), (.int (OwnKit.i2b (c1 >>> ((8 : Int32) &&& 31)))), (.int (OwnKit.i2b c2)), (.int (OwnKit.i2b (c2 >>> ((8 : Int32) &&& 31))))] (.int 0)) :
    CN [] l Z (⟨"java/lang/String", "length", "()I"⟩ : MethodName) jdk_42_method_54_code 1 (Option.some Jvm.ClassFile.FieldType.int) ({ frames := 1, cells := 0, slots := 0, locals := 14 } : Room) #[(.ref a)] h0 [] (QUSl3 Z cz a b kb c0 c1 c2 h0) := by
  refine CN.of_walk (plainFor_of_name pn0) O (fun _ q => nomatch q) ?_
  intro p e s m below meth c T0 W0 hx hby hml hoZ hnm hret hlk
  have H0 := W0.here; have hz0 := W0.zsize
  refine Goes.cast (ef2 m a) ?_
  refine G.aloadN H0 hx 1 (hb hby d9_0) rfl rfl rfl ?_
  refine Wk.getF W0 hx hoZ (host := "") (Or.inl (wd hw 20 rfl)) Via.refl Fv 4 (hb hby d9_1) rfl ?_
  intro T1 W1; have H1 := W1.here
  refine Wk.arraylength W1 hx Vb 5 (hb hby d9_4) rfl ?_
  refine G.aloadN H1 hx 6 (hb hby d9_5) rfl rfl rfl ?_
  refine Wk.virtual W1 hx hoZ (y := (⟨"java/lang/String", "coder", "()B"⟩ : MethodName)) (z := (⟨"java/lang/String", "coder", "()B"⟩ : MethodName)) (wd hw 60 rfl) (wd hw 61 rfl) (wd hw 63 rfl) (wd hw 62 rfl) (W1.nf (wd hw 63 rfl)) (by decide) (Wd := 1) (CN.back (rmCodW l Z a0 hw cz a h0 W1.old hCS hcz Ea Fc) W1.warm (wd hw 64 rfl) (wd hw 3 rfl) (by decide) (by decide)) Ea (by rw [hml]; rfl) [] [(.int (6 : Int32))] (lenOf pd9 rfl) rfl rfl (Nat.le_of_eq rfl) 9 (hb hby d9_6) rfl (by decide) (by decide) (fun _ q => nomatch q) ?_
  intro v2 T2 h2 W2 K2 Ch2 Q2
  have H2 := W2.here; have z2 := K2.1
  obtain ⟨rfl, eh2⟩ := Q2
  show Goes p e below (PostN s Z h0 [] (QUSl3 Z cz a b kb c0 c1 c2 h0) ({ frames := 1, cells := 0, slots := 0, locals := 14 } : Room).cells ({ frames := 1, cells := 0, slots := 0, locals := 14 } : Room).slots) (T2.setTop (mkF m 9 #[.val (.ref a)] [(.int (1 : Int32)), (.int (6 : Int32))]))
  refine G.ishrF H2 hx 10 (3 : Int32) (hb hby d9_9) (by decide) rfl ?_
  exact Wk.retI W2 hx hret hlk (hb hby d9_10) (by decide) (by decide) ⟨rfl, (by rw [eh2])⟩
def QUCk3_0 (Z : State) (fm : Value) (b : Addr) (kb : ClassId) (c0 : Int32) (c1 : Int32) (c2 : Int32) (h0 : Heap) : Option Value → Heap → Prop := fun v h => v = none ∧ h = h0
set_option maxRecDepth 65536 in
set_option maxHeartbeats 40000000 in
theorem rmUCk3_0 (l : Launch) (Z : State) (a0 : Array Value) (hw : ∀ d ∈ tables_1, d.before a0 Z = true) (fm : Value) (b : Addr) (kb : ClassId) (c0 : Int32) (c1 : Int32) (c2 : Int32) (h0 : Heap) (O : Ext Z.heap h0) (hFM : Sta Z Z.heap "jdk/internal/util/Preconditions" "SIOOBE_FORMATTER" "Ljava/util/function/BiFunction;" fm) (hfm : fm.isRef = true) (Vb : Arv Z h0 b kb .byte 6 [(.int (OwnKit.i2b c0)), (.int (OwnKit.i2b (c0 >>> ((8 : Int32) &&& 31)))), (.int (OwnKit.i2b c1)), (.int (OwnKit.i2b (c1 >>> ((8 : Int32) &&& 31)))), (.int (OwnKit.i2b c2)), (.int (OwnKit.i2b (c2 >>> ((8 : Int32) &&& 31))))] (.int 0)) :
    CN [] l Z (⟨"java/lang/StringUTF16", "checkIndex", "(I[B)V"⟩ : MethodName) jdk_52_method_91_code 2 (Option.none : Option Jvm.ClassFile.FieldType) ({ frames := 2, cells := 0, slots := 0, locals := 40 } : Room) #[(.int (0 : Int32)), (.ref b)] h0 [] (QUCk3_0 Z fm b kb c0 c1 c2 h0) := by
  refine CN.of_walk (plainFor_of_name pn2) O (fun _ q => nomatch q) ?_
  intro p e s m below meth c T0 W0 hx hby hml hoZ hnm hret hlk
  have H0 := W0.here; have hz0 := W0.zsize
  refine Goes.cast (ef11 m (0 : Int32) b) ?_
  refine G.iloadN H0 hx 1 (hb hby d25_0) rfl rfl ?_
  refine G.aloadN H0 hx 2 (hb hby d25_1) rfl rfl rfl ?_
  refine Wk.callS W0 hx hoZ (y := (⟨"java/lang/StringUTF16", "length", "([B)I"⟩ : MethodName)) (wd hw 124 rfl) (wd hw 125 rfl) (wd hw 69 rfl) (wd hw 126 rfl) (by decide) (Wd := 1) (CN.back (rmULn3 l Z a0 hw b kb (OwnKit.i2b c0) (OwnKit.i2b (c0 >>> ((8 : Int32) &&& 31))) (OwnKit.i2b c1) (OwnKit.i2b (c1 >>> ((8 : Int32) &&& 31))) (OwnKit.i2b c2) (OwnKit.i2b (c2 >>> ((8 : Int32) &&& 31))) h0 W0.old Vb) W0.warm (wd hw 126 rfl) (wd hw 69 rfl) (by decide) (by decide)) (by rw [hml]; rfl) [(.ref b)] [(.int (0 : Int32))] (lenOf pd10 rfl) rfl rfl (Nat.le_of_eq rfl) 5 (hb hby d25_2) rfl (by decide) (by decide) (fun _ q => nomatch q) ?_
  intro v1 T1 h1 W1 K1 Ch1 Q1
  have H1 := W1.here; have z1 := K1.1
  obtain ⟨rfl, eh1⟩ := Q1
  show Goes p e below (PostN s Z h0 [] (QUCk3_0 Z fm b kb c0 c1 c2 h0) ({ frames := 2, cells := 0, slots := 0, locals := 40 } : Room).cells ({ frames := 2, cells := 0, slots := 0, locals := 40 } : Room).slots) (T1.setTop (mkF m 5 #[.val (.int (0 : Int32)), .val (.ref b)] [(.int (3 : Int32)), (.int (0 : Int32))]))
  refine Wk.callS W1 hx hoZ (y := (⟨"java/lang/String", "checkIndex", "(II)V"⟩ : MethodName)) (wd hw 127 rfl) (wd hw 92 rfl) (wd hw 3 rfl) (wd hw 93 rfl) (by decide) (Wd := 0) (CN.back (rmSCk l Z a0 hw fm (0 : Int32) (3 : Int32) h1 W1.old hFM hfm (by decide) (by decide)) W1.warm (wd hw 93 rfl) (wd hw 3 rfl) (by decide) (by decide)) (by rw [hml]; rfl) [(.int (0 : Int32)), (.int (3 : Int32))] [] (lenOf pd11 rfl) rfl rfl (Nat.le_of_eq rfl) 8 (hb hby d25_5) rfl (by decide) (by decide) (fun _ q => nomatch q) ?_
  intro v2 T2 h2 W2 K2 Ch2 Q2
  have H2 := W2.here; have z2 := K2.1
  obtain ⟨rfl, eh2⟩ := Q2
  show Goes p e below (PostN s Z h0 [] (QUCk3_0 Z fm b kb c0 c1 c2 h0) ({ frames := 2, cells := 0, slots := 0, locals := 40 } : Room).cells ({ frames := 2, cells := 0, slots := 0, locals := 40 } : Room).slots) (T2.setTop (mkF m 8 #[.val (.int (0 : Int32)), .val (.ref b)] []))
  exact Wk.retV W2 hx hret hlk (hb hby d25_8) (by decide) (by decide) ⟨rfl, (by rw [eh2, eh1])⟩
def QUCh3_0 (Z : State) (fm : Value) (b : Addr) (kb : ClassId) (c0 : Int32) (c1 : Int32) (c2 : Int32) (h0 : Heap) : Option Value → Heap → Prop := fun v h => v = some (.int c0) ∧ h = h0
set_option maxRecDepth 65536 in
set_option maxHeartbeats 40000000 in
theorem rmUCh3_0 (l : Launch) (Z : State) (a0 : Array Value) (hw : ∀ d ∈ tables_1, d.before a0 Z = true) (fm : Value) (b : Addr) (kb : ClassId) (c0 : Int32) (c1 : Int32) (c2 : Int32) (h0 : Heap) (O : Ext Z.heap h0) (hAD : Sta Z Z.heap "java/lang/StringUTF16" "$assertionsDisabled" "Z" (.int 1)) (hHI : Sta Z Z.heap "java/lang/StringUTF16" "HI_BYTE_SHIFT" "I" (.int 0)) (hLO : Sta Z Z.heap "java/lang/StringUTF16" "LO_BYTE_SHIFT" "I" (.int 8)) (w0 : C16 c0) (w1 : C16 c1) (w2 : C16 c2) (hFM : Sta Z Z.heap "jdk/internal/util/Preconditions" "SIOOBE_FORMATTER" "Ljava/util/function/BiFunction;" fm) (hfm : fm.isRef = true) (Vb : Arv Z h0 b kb .byte 6 [(.int (OwnKit.i2b c0)), (.int (OwnKit.i2b (c0 >>> ((8 : Int32) &&& 31)))), (.int (OwnKit.i2b c1)), (.int (OwnKit.i2b (c1 >>> ((8 : Int32) &&& 31)))), (.int (OwnKit.i2b c2)), (.int (OwnKit.i2b (c2 >>> ((8 : Int32) &&& 31))))] (.int 0)) :
    CN [] l Z (⟨"java/lang/StringUTF16", "charAt", "([BI)C"⟩ : MethodName) jdk_52_method_83_code 2 (Option.some Jvm.ClassFile.FieldType.char) ({ frames := 3, cells := 0, slots := 0, locals := 60 } : Room) #[(.ref b), (.int (0 : Int32))] h0 [] (QUCh3_0 Z fm b kb c0 c1 c2 h0) := by
  refine CN.of_walk (plainFor_of_name pn2) O (fun _ q => nomatch q) ?_
  intro p e s m below meth c T0 W0 hx hby hml hoZ hnm hret hlk
  have H0 := W0.here; have hz0 := W0.zsize
  refine Goes.cast (ef4 m b (0 : Int32)) ?_
  refine G.iloadN H0 hx 1 (hb hby d24_0) rfl rfl ?_
  refine G.aloadN H0 hx 2 (hb hby d24_1) rfl rfl rfl ?_
  refine Wk.callS W0 hx hoZ (y := (⟨"java/lang/StringUTF16", "checkIndex", "(I[B)V"⟩ : MethodName)) (wd hw 121 rfl) (wd hw 122 rfl) (wd hw 69 rfl) (wd hw 123 rfl) (by decide) (Wd := 0) (CN.back (rmUCk3_0 l Z a0 hw fm b kb c0 c1 c2 h0 W0.old hFM hfm Vb) W0.warm (wd hw 123 rfl) (wd hw 69 rfl) (by decide) (by decide)) (by rw [hml]; rfl) [(.int (0 : Int32)), (.ref b)] [] (lenOf pd12 rfl) rfl rfl (Nat.le_of_eq rfl) 5 (hb hby d24_2) rfl (by decide) (by decide) (fun _ q => nomatch q) ?_
  intro v1 T1 h1 W1 K1 Ch1 Q1
  have H1 := W1.here; have z1 := K1.1
  obtain ⟨rfl, eh1⟩ := Q1
  show Goes p e below (PostN s Z h0 [] (QUCh3_0 Z fm b kb c0 c1 c2 h0) ({ frames := 3, cells := 0, slots := 0, locals := 60 } : Room).cells ({ frames := 3, cells := 0, slots := 0, locals := 60 } : Room).slots) (T1.setTop (mkF m 5 #[.val (.ref b), .val (.int (0 : Int32))] []))
  refine G.aloadN H1 hx 6 (hb hby d24_5) rfl rfl rfl ?_
  refine G.iloadN H1 hx 7 (hb hby d24_6) rfl rfl ?_
  refine Wk.callS W1 hx hoZ (y := (⟨"java/lang/StringUTF16", "getChar", "([BI)C"⟩ : MethodName)) (wd hw 115 rfl) (wd hw 116 rfl) (wd hw 69 rfl) (wd hw 117 rfl) (by decide) (Wd := 0) (CN.back (rmUGc3_0 l Z a0 hw b kb (OwnKit.i2b c0) (OwnKit.i2b (c0 >>> ((8 : Int32) &&& 31))) (OwnKit.i2b c1) (OwnKit.i2b (c1 >>> ((8 : Int32) &&& 31))) (OwnKit.i2b c2) (OwnKit.i2b (c2 >>> ((8 : Int32) &&& 31))) h1 W1.old hAD hHI hLO (Vb.keep K1 nin0)) W1.warm (wd hw 117 rfl) (wd hw 69 rfl) (by decide) (by decide)) (by rw [hml]; rfl) [(.ref b), (.int (0 : Int32))] [] (lenOf pd6 rfl) rfl rfl (Nat.le_of_eq rfl) 10 (hb hby d24_7) rfl (by decide) (by decide) (fun _ q => nomatch q) ?_
  intro v2 T2 h2 W2 K2 Ch2 Q2
  have H2 := W2.here; have z2 := K2.1
  obtain ⟨rfl, eh2⟩ := Q2
  show Goes p e below (PostN s Z h0 [] (QUCh3_0 Z fm b kb c0 c1 c2 h0) ({ frames := 3, cells := 0, slots := 0, locals := 60 } : Room).cells ({ frames := 3, cells := 0, slots := 0, locals := 60 } : Room).slots) (T2.setTop (mkF m 10 #[.val (.ref b), .val (.int (0 : Int32))] [(.int (OwnKit.i2c ((((OwnKit.i2b c0) &&& (255 : Int32)) <<< ((0 : Int32) &&& 31)) ||| (((OwnKit.i2b (c0 >>> ((8 : Int32) &&& 31))) &&& (255 : Int32)) <<< ((8 : Int32) &&& 31)))))]))
  rw [pair16 w0]
  show Goes p e below (PostN s Z h0 [] (QUCh3_0 Z fm b kb c0 c1 c2 h0) ({ frames := 3, cells := 0, slots := 0, locals := 60 } : Room).cells ({ frames := 3, cells := 0, slots := 0, locals := 60 } : Room).slots) (T2.setTop (mkF m 10 #[.val (.ref b), .val (.int (0 : Int32))] [(.int c0)]))
  exact Wk.retN W2 hx c0 (t := .char) (nar_c16 w0) (by simp) hret hlk (hb hby d24_10) (by decide) (by decide) ⟨rfl, (by rw [eh2, eh1])⟩
def QUSc3_0 (Z : State) (cz : Int32) (fm : Value) (a : Addr) (b : Addr) (kb : ClassId) (c0 : Int32) (c1 : Int32) (c2 : Int32) (h0 : Heap) : Option Value → Heap → Prop := fun v h => v = some (.int c0) ∧ h = h0
set_option maxRecDepth 65536 in
set_option maxHeartbeats 40000000 in
theorem rmUSc3_0 (l : Launch) (Z : State) (a0 : Array Value) (hw : ∀ d ∈ tables_1, d.before a0 Z = true) (cz : Int32) (fm : Value) (a : Addr) (b : Addr) (kb : ClassId) (c0 : Int32) (c1 : Int32) (c2 : Int32) (h0 : Heap) (O : Ext Z.heap h0) (hAD : Sta Z Z.heap "java/lang/StringUTF16" "$assertionsDisabled" "Z" (.int 1)) (hHI : Sta Z Z.heap "java/lang/StringUTF16" "HI_BYTE_SHIFT" "I" (.int 0)) (hLO : Sta Z Z.heap "java/lang/StringUTF16" "LO_BYTE_SHIFT" "I" (.int 8)) (w0 : C16 c0) (w1 : C16 c1) (w2 : C16 c2) (hFM : Sta Z Z.heap "jdk/internal/util/Preconditions" "SIOOBE_FORMATTER" "Ljava/util/function/BiFunction;" fm) (hfm : fm.isRef = true) (hCS : Sta Z Z.heap "java/lang/String" "COMPACT_STRINGS" "Z" (.int cz)) (hcz : ¬ cz = 0) (Ea : Exa Z h0 a "java/lang/String") (Fc : Fld Z h0 a "java/lang/String" "coder" "B" (.int 1)) (Fv : Fld Z h0 a "java/lang/String" "value" "[B" (.ref b)) (Vb : Arv Z h0 b kb .byte 6 [(.int (OwnKit.i2b c0)), (.int (OwnKit.i2b (c0 >>> ((8 : Int32) &&& 31)))), (.int (OwnKit.i2b c1)), (.int (OwnKit.i2b (c1 >>> ((8 : Int32) &&& 31)))), (.int (OwnKit.i2b c2)), (.int (OwnKit.i2b (c2 >>> ((8 : Int32) &&& 31))))] (.int 0)) :
    CN [] l Z (⟨"java/lang/String", "charAt", "(I)C"⟩ : MethodName) jdk_42_method_56_code 2 (Option.some Jvm.ClassFile.FieldType.char) ({ frames := 4, cells := 0, slots := 0, locals := 80 } : Room) #[(.ref a), (.int (0 : Int32))] h0 [] (QUSc3_0 Z cz fm a b kb c0 c1 c2 h0) := by
  refine CN.of_walk (plainFor_of_name pn0) O (fun _ q => nomatch q) ?_
  intro p e s m below meth c T0 W0 hx hby hml hoZ hnm hret hlk
  have H0 := W0.here; have hz0 := W0.zsize
  refine Goes.cast (ef4 m a (0 : Int32)) ?_
  refine G.aloadN H0 hx 1 (hb hby d14_0) rfl rfl rfl ?_
  refine Wk.virtual W0 hx hoZ (y := (⟨"java/lang/String", "isLatin1", "()Z"⟩ : MethodName)) (z := (⟨"java/lang/String", "isLatin1", "()Z"⟩ : MethodName)) (wd hw 82 rfl) (wd hw 83 rfl) (wd hw 85 rfl) (wd hw 84 rfl) (W0.nf (wd hw 85 rfl)) (by decide) (Wd := 0) (CN.back (rmLatW l Z a0 hw cz a h0 W0.old hCS hcz Ea Fc) W0.warm (wd hw 86 rfl) (wd hw 3 rfl) (by decide) (by decide)) Ea (by rw [hml]; rfl) [] [] (lenOf pd13 rfl) rfl rfl (Nat.le_of_eq rfl) 4 (hb hby d14_1) rfl (by decide) (by decide) (fun _ q => nomatch q) ?_
  intro v1 T1 h1 W1 K1 Ch1 Q1
  have H1 := W1.here; have z1 := K1.1
  obtain ⟨rfl, eh1⟩ := Q1
  show Goes p e below (PostN s Z h0 [] (QUSc3_0 Z cz fm a b kb c0 c1 c2 h0) ({ frames := 4, cells := 0, slots := 0, locals := 80 } : Room).cells ({ frames := 4, cells := 0, slots := 0, locals := 80 } : Room).slots) (T1.setTop (mkF m 4 #[.val (.ref a), .val (.int (0 : Int32))] [(.int (0 : Int32))]))
  refine G.ifY H1 hx 16 (hb hby d14_4) (zeq (by decide)).1 (by decide) rfl ?_
  refine G.aloadN H1 hx 17 (hb hby d14_16) rfl rfl rfl ?_
  refine Wk.getF W1 hx hoZ (host := "") (Or.inl (wd hw 20 rfl)) Via.refl (Fv.keep K1 nin0) 20 (hb hby d14_17) rfl ?_
  intro T2 W2; have H2 := W2.here
  refine G.iloadN H2 hx 21 (hb hby d14_20) rfl rfl ?_
  refine Wk.callS W2 hx hoZ (y := (⟨"java/lang/StringUTF16", "charAt", "([BI)C"⟩ : MethodName)) (wd hw 118 rfl) (wd hw 119 rfl) (wd hw 69 rfl) (wd hw 120 rfl) (by decide) (Wd := 0) (CN.back (rmUCh3_0 l Z a0 hw fm b kb c0 c1 c2 h1 W2.old hAD hHI hLO w0 w1 w2 hFM hfm (Vb.keep K1 nin0)) W2.warm (wd hw 120 rfl) (wd hw 69 rfl) (by decide) (by decide)) (by rw [hml]; rfl) [(.ref b), (.int (0 : Int32))] [] (lenOf pd6 rfl) rfl rfl (Nat.le_of_eq rfl) 24 (hb hby d14_21) rfl (by decide) (by decide) (fun _ q => nomatch q) ?_
  intro v3 T3 h3 W3 K3 Ch3 Q3
  have H3 := W3.here; have z3 := K3.1
  obtain ⟨rfl, eh3⟩ := Q3
  show Goes p e below (PostN s Z h0 [] (QUSc3_0 Z cz fm a b kb c0 c1 c2 h0) ({ frames := 4, cells := 0, slots := 0, locals := 80 } : Room).cells ({ frames := 4, cells := 0, slots := 0, locals := 80 } : Room).slots) (T3.setTop (mkF m 24 #[.val (.ref a), .val (.int (0 : Int32))] [(.int c0)]))
  exact Wk.retN W3 hx c0 (t := .char) (nar_c16 w0) (by simp) hret hlk (hb hby d14_24) (by decide) (by decide) ⟨rfl, (by rw [eh3, eh1])⟩
def QUCk3_1 (Z : State) (fm : Value) (b : Addr) (kb : ClassId) (c0 : Int32) (c1 : Int32) (c2 : Int32) (h0 : Heap) : Option Value → Heap → Prop := fun v h => v = none ∧ h = h0
set_option maxRecDepth 65536 in
set_option maxHeartbeats 40000000 in
theorem rmUCk3_1 (l : Launch) (Z : State) (a0 : Array Value) (hw : ∀ d ∈ tables_1, d.before a0 Z = true) (fm : Value) (b : Addr) (kb : ClassId) (c0 : Int32) (c1 : Int32) (c2 : Int32) (h0 : Heap) (O : Ext Z.heap h0) (hFM : Sta Z Z.heap "jdk/internal/util/Preconditions" "SIOOBE_FORMATTER" "Ljava/util/function/BiFunction;" fm) (hfm : fm.isRef = true) (Vb : Arv Z h0 b kb .byte 6 [(.int (OwnKit.i2b c0)), (.int (OwnKit.i2b (c0 >>> ((8 : Int32) &&& 31)))), (.int (OwnKit.i2b c1)), (.int (OwnKit.i2b (c1 >>> ((8 : Int32) &&& 31)))), (.int (OwnKit.i2b c2)), (.int (OwnKit.i2b (c2 >>> ((8 : Int32) &&& 31))))] (.int 0)) :
    CN [] l Z (⟨"java/lang/StringUTF16", "checkIndex", "(I[B)V"⟩ : MethodName) jdk_52_method_91_code 2 (Option.none : Option Jvm.ClassFile.FieldType) ({ frames := 2, cells := 0, slots := 0, locals := 40 } : Room) #[(.int (1 : Int32)), (.ref b)] h0 [] (QUCk3_1 Z fm b kb c0 c1 c2 h0) := by
  refine CN.of_walk (plainFor_of_name pn2) O (fun _ q => nomatch q) ?_
  intro p e s m below meth c T0 W0 hx hby hml hoZ hnm hret hlk
  have H0 := W0.here; have hz0 := W0.zsize
  refine Goes.cast (ef11 m (1 : Int32) b) ?_
  refine G.iloadN H0 hx 1 (hb hby d25_0) rfl rfl ?_
  refine G.aloadN H0 hx 2 (hb hby d25_1) rfl rfl rfl ?_
  refine Wk.callS W0 hx hoZ (y := (⟨"java/lang/StringUTF16", "length", "([B)I"⟩ : MethodName)) (wd hw 124 rfl) (wd hw 125 rfl) (wd hw 69 rfl) (wd hw 126 rfl) (by decide) (Wd := 1) (CN.back (rmULn3 l Z a0 hw b kb (OwnKit.i2b c0) (OwnKit.i2b (c0 >>> ((8 : Int32) &&& 31))) (OwnKit.i2b c1) (OwnKit.i2b (c1 >>> ((8 : Int32) &&& 31))) (OwnKit.i2b c2) (OwnKit.i2b (c2 >>> ((8 : Int32) &&& 31))) h0 W0.old Vb) W0.warm (wd hw 126 rfl) (wd hw 69 rfl) (by decide) (by decide)) (by rw [hml]; rfl) [(.ref b)] [(.int (1 : Int32))] (lenOf pd10 rfl) rfl rfl (Nat.le_of_eq rfl) 5 (hb hby d25_2) rfl (by decide) (by decide) (fun _ q => nomatch q) ?_
  intro v1 T1 h1 W1 K1 Ch1 Q1
  have H1 := W1.here; have z1 := K1.1
  obtain ⟨rfl, eh1⟩ := Q1
  show Goes p e below (PostN s Z h0 [] (QUCk3_1 Z fm b kb c0 c1 c2 h0) ({ frames := 2, cells := 0, slots := 0, locals := 40 } : Room).cells ({ frames := 2, cells := 0, slots := 0, locals := 40 } : Room).slots) (T1.setTop (mkF m 5 #[.val (.int (1 : Int32)), .val (.ref b)] [(.int (3 : Int32)), (.int (1 : Int32))]))
  refine Wk.callS W1 hx hoZ (y := (⟨"java/lang/String", "checkIndex", "(II)V"⟩ : MethodName)) (wd hw 127 rfl) (wd hw 92 rfl) (wd hw 3 rfl) (wd hw 93 rfl) (by decide) (Wd := 0) (CN.back (rmSCk l Z a0 hw fm (1 : Int32) (3 : Int32) h1 W1.old hFM hfm (by decide) (by decide)) W1.warm (wd hw 93 rfl) (wd hw 3 rfl) (by decide) (by decide)) (by rw [hml]; rfl) [(.int (1 : Int32)), (.int (3 : Int32))] [] (lenOf pd11 rfl) rfl rfl (Nat.le_of_eq rfl) 8 (hb hby d25_5) rfl (by decide) (by decide) (fun _ q => nomatch q) ?_
  intro v2 T2 h2 W2 K2 Ch2 Q2
  have H2 := W2.here; have z2 := K2.1
  obtain ⟨rfl, eh2⟩ := Q2
  show Goes p e below (PostN s Z h0 [] (QUCk3_1 Z fm b kb c0 c1 c2 h0) ({ frames := 2, cells := 0, slots := 0, locals := 40 } : Room).cells ({ frames := 2, cells := 0, slots := 0, locals := 40 } : Room).slots) (T2.setTop (mkF m 8 #[.val (.int (1 : Int32)), .val (.ref b)] []))
  exact Wk.retV W2 hx hret hlk (hb hby d25_8) (by decide) (by decide) ⟨rfl, (by rw [eh2, eh1])⟩
def QUCh3_1 (Z : State) (fm : Value) (b : Addr) (kb : ClassId) (c0 : Int32) (c1 : Int32) (c2 : Int32) (h0 : Heap) : Option Value → Heap → Prop := fun v h => v = some (.int c1) ∧ h = h0
set_option maxRecDepth 65536 in
set_option maxHeartbeats 40000000 in
theorem rmUCh3_1 (l : Launch) (Z : State) (a0 : Array Value) (hw : ∀ d ∈ tables_1, d.before a0 Z = true) (fm : Value) (b : Addr) (kb : ClassId) (c0 : Int32) (c1 : Int32) (c2 : Int32) (h0 : Heap) (O : Ext Z.heap h0) (hAD : Sta Z Z.heap "java/lang/StringUTF16" "$assertionsDisabled" "Z" (.int 1)) (hHI : Sta Z Z.heap "java/lang/StringUTF16" "HI_BYTE_SHIFT" "I" (.int 0)) (hLO : Sta Z Z.heap "java/lang/StringUTF16" "LO_BYTE_SHIFT" "I" (.int 8)) (w0 : C16 c0) (w1 : C16 c1) (w2 : C16 c2) (hFM : Sta Z Z.heap "jdk/internal/util/Preconditions" "SIOOBE_FORMATTER" "Ljava/util/function/BiFunction;" fm) (hfm : fm.isRef = true) (Vb : Arv Z h0 b kb .byte 6 [(.int (OwnKit.i2b c0)), (.int (OwnKit.i2b (c0 >>> ((8 : Int32) &&& 31)))), (.int (OwnKit.i2b c1)), (.int (OwnKit.i2b (c1 >>> ((8 : Int32) &&& 31)))), (.int (OwnKit.i2b c2)), (.int (OwnKit.i2b (c2 >>> ((8 : Int32) &&& 31))))] (.int 0)) :
    CN [] l Z (⟨"java/lang/StringUTF16", "charAt", "([BI)C"⟩ : MethodName) jdk_52_method_83_code 2 (Option.some Jvm.ClassFile.FieldType.char) ({ frames := 3, cells := 0, slots := 0, locals := 60 } : Room) #[(.ref b), (.int (1 : Int32))] h0 [] (QUCh3_1 Z fm b kb c0 c1 c2 h0) := by
  refine CN.of_walk (plainFor_of_name pn2) O (fun _ q => nomatch q) ?_
  intro p e s m below meth c T0 W0 hx hby hml hoZ hnm hret hlk
  have H0 := W0.here; have hz0 := W0.zsize
  refine Goes.cast (ef4 m b (1 : Int32)) ?_
  refine G.iloadN H0 hx 1 (hb hby d24_0) rfl rfl ?_
  refine G.aloadN H0 hx 2 (hb hby d24_1) rfl rfl rfl ?_
  refine Wk.callS W0 hx hoZ (y := (⟨"java/lang/StringUTF16", "checkIndex", "(I[B)V"⟩ : MethodName)) (wd hw 121 rfl) (wd hw 122 rfl) (wd hw 69 rfl) (wd hw 123 rfl) (by decide) (Wd := 0) (CN.back (rmUCk3_1 l Z a0 hw fm b kb c0 c1 c2 h0 W0.old hFM hfm Vb) W0.warm (wd hw 123 rfl) (wd hw 69 rfl) (by decide) (by decide)) (by rw [hml]; rfl) [(.int (1 : Int32)), (.ref b)] [] (lenOf pd12 rfl) rfl rfl (Nat.le_of_eq rfl) 5 (hb hby d24_2) rfl (by decide) (by decide) (fun _ q => nomatch q) ?_
  intro v1 T1 h1 W1 K1 Ch1 Q1
  have H1 := W1.here; have z1 := K1.1
  obtain ⟨rfl, eh1⟩ := Q1
  show Goes p e below (PostN s Z h0 [] (QUCh3_1 Z fm b kb c0 c1 c2 h0) ({ frames := 3, cells := 0, slots := 0, locals := 60 } : Room).cells ({ frames := 3, cells := 0, slots := 0, locals := 60 } : Room).slots) (T1.setTop (mkF m 5 #[.val (.ref b), .val (.int (1 : Int32))] []))
  refine G.aloadN H1 hx 6 (hb hby d24_5) rfl rfl rfl ?_
  refine G.iloadN H1 hx 7 (hb hby d24_6) rfl rfl ?_
  refine Wk.callS W1 hx hoZ (y := (⟨"java/lang/StringUTF16", "getChar", "([BI)C"⟩ : MethodName)) (wd hw 115 rfl) (wd hw 116 rfl) (wd hw 69 rfl) (wd hw 117 rfl) (by decide) (Wd := 0) (CN.back (rmUGc3_1 l Z a0 hw b kb (OwnKit.i2b c0) (OwnKit.i2b (c0 >>> ((8 : Int32) &&& 31))) (OwnKit.i2b c1) (OwnKit.i2b (c1 >>> ((8 : Int32) &&& 31))) (OwnKit.i2b c2) (OwnKit.i2b (c2 >>> ((8 : Int32) &&& 31))) h1 W1.old hAD hHI hLO (Vb.keep K1 nin0)) W1.warm (wd hw 117 rfl) (wd hw 69 rfl) (by decide) (by decide)) (by rw [hml]; rfl) [(.ref b), (.int (1 : Int32))] [] (lenOf pd6 rfl) rfl rfl (Nat.le_of_eq rfl) 10 (hb hby d24_7) rfl (by decide) (by decide) (fun _ q => nomatch q) ?_
  intro v2 T2 h2 W2 K2 Ch2 Q2
  have H2 := W2.here; have z2 := K2.1
  obtain ⟨rfl, eh2⟩ := Q2
  show Goes p e below (PostN s Z h0 [] (QUCh3_1 Z fm b kb c0 c1 c2 h0) ({ frames := 3, cells := 0, slots := 0, locals := 60 } : Room).cells ({ frames := 3, cells := 0, slots := 0, locals := 60 } : Room).slots) (T2.setTop (mkF m 10 #[.val (.ref b), .val (.int (1 : Int32))] [(.int (OwnKit.i2c ((((OwnKit.i2b c1) &&& (255 : Int32)) <<< ((0 : Int32) &&& 31)) ||| (((OwnKit.i2b (c1 >>> ((8 : Int32) &&& 31))) &&& (255 : Int32)) <<< ((8 : Int32) &&& 31)))))]))
  rw [pair16 w1]
  show Goes p e below (PostN s Z h0 [] (QUCh3_1 Z fm b kb c0 c1 c2 h0) ({ frames := 3, cells := 0, slots := 0, locals := 60 } : Room).cells ({ frames := 3, cells := 0, slots := 0, locals := 60 } : Room).slots) (T2.setTop (mkF m 10 #[.val (.ref b), .val (.int (1 : Int32))] [(.int c1)]))
  exact Wk.retN W2 hx c1 (t := .char) (nar_c16 w1) (by simp) hret hlk (hb hby d24_10) (by decide) (by decide) ⟨rfl, (by rw [eh2, eh1])⟩
def QUSc3_1 (Z : State) (cz : Int32) (fm : Value) (a : Addr) (b : Addr) (kb : ClassId) (c0 : Int32) (c1 : Int32) (c2 : Int32) (h0 : Heap) : Option Value → Heap → Prop := fun v h => v = some (.int c1) ∧ h = h0
set_option maxRecDepth 65536 in
set_option maxHeartbeats 40000000 in
theorem rmUSc3_1 (l : Launch) (Z : State) (a0 : Array Value) (hw : ∀ d ∈ tables_1, d.before a0 Z = true) (cz : Int32) (fm : Value) (a : Addr) (b : Addr) (kb : ClassId) (c0 : Int32) (c1 : Int32) (c2 : Int32) (h0 : Heap) (O : Ext Z.heap h0) (hAD : Sta Z Z.heap "java/lang/StringUTF16" "$assertionsDisabled" "Z" (.int 1)) (hHI : Sta Z Z.heap "java/lang/StringUTF16" "HI_BYTE_SHIFT" "I" (.int 0)) (hLO : Sta Z Z.heap "java/lang/StringUTF16" "LO_BYTE_SHIFT" "I" (.int 8)) (w0 : C16 c0) (w1 : C16 c1) (w2 : C16 c2) (hFM : Sta Z Z.heap "jdk/internal/util/Preconditions" "SIOOBE_FORMATTER" "Ljava/util/function/BiFunction;" fm) (hfm : fm.isRef = true) (hCS : Sta Z Z.heap "java/lang/String" "COMPACT_STRINGS" "Z" (.int cz)) (hcz : ¬ cz = 0) (Ea : Exa Z h0 a "java/lang/String") (Fc : Fld Z h0 a "java/lang/String" "coder" "B" (.int 1)) (Fv : Fld Z h0 a "java/lang/String" "value" "[B" (.ref b)) (Vb : Arv Z h0 b kb .byte 6 [(.int (OwnKit.i2b c0)), (.int (OwnKit.i2b (c0 >>> ((8 : Int32) &&& 31)))), (.int (OwnKit.i2b c1)), (.int (OwnKit.i2b (c1 >>> ((8 : Int32) &&& 31)))), (.int (OwnKit.i2b c2)), (.int (OwnKit.i2b (c2 >>> ((8 : Int32) &&& 31))))] (.int 0)) :
    CN [] l Z (⟨"java/lang/String", "charAt", "(I)C"⟩ : MethodName) jdk_42_method_56_code 2 (Option.some Jvm.ClassFile.FieldType.char) ({ frames := 4, cells := 0, slots := 0, locals := 80 } : Room) #[(.ref a), (.int (1 : Int32))] h0 [] (QUSc3_1 Z cz fm a b kb c0 c1 c2 h0) := by
  refine CN.of_walk (plainFor_of_name pn0) O (fun _ q => nomatch q) ?_
  intro p e s m below meth c T0 W0 hx hby hml hoZ hnm hret hlk
  have H0 := W0.here; have hz0 := W0.zsize
  refine Goes.cast (ef4 m a (1 : Int32)) ?_
  refine G.aloadN H0 hx 1 (hb hby d14_0) rfl rfl rfl ?_
  refine Wk.virtual W0 hx hoZ (y := (⟨"java/lang/String", "isLatin1", "()Z"⟩ : MethodName)) (z := (⟨"java/lang/String", "isLatin1", "()Z"⟩ : MethodName)) (wd hw 82 rfl) (wd hw 83 rfl) (wd hw 85 rfl) (wd hw 84 rfl) (W0.nf (wd hw 85 rfl)) (by decide) (Wd := 0) (CN.back (rmLatW l Z a0 hw cz a h0 W0.old hCS hcz Ea Fc) W0.warm (wd hw 86 rfl) (wd hw 3 rfl) (by decide) (by decide)) Ea (by rw [hml]; rfl) [] [] (lenOf pd13 rfl) rfl rfl (Nat.le_of_eq rfl) 4 (hb hby d14_1) rfl (by decide) (by decide) (fun _ q => nomatch q) ?_
  intro v1 T1 h1 W1 K1 Ch1 Q1
  have H1 := W1.here; have z1 := K1.1
  obtain ⟨rfl, eh1⟩ := Q1
  show Goes p e below (PostN s Z h0 [] (QUSc3_1 Z cz fm a b kb c0 c1 c2 h0) ({ frames := 4, cells := 0, slots := 0, locals := 80 } : Room).cells ({ frames := 4, cells := 0, slots := 0, locals := 80 } : Room).slots) (T1.setTop (mkF m 4 #[.val (.ref a), .val (.int (1 : Int32))] [(.int (0 : Int32))]))
  refine G.ifY H1 hx 16 (hb hby d14_4) (zeq (by decide)).1 (by decide) rfl ?_
  refine G.aloadN H1 hx 17 (hb hby d14_16) rfl rfl rfl ?_
  refine Wk.getF W1 hx hoZ (host := "") (Or.inl (wd hw 20 rfl)) Via.refl (Fv.keep K1 nin0) 20 (hb hby d14_17) rfl ?_
  intro T2 W2; have H2 := W2.here
  refine G.iloadN H2 hx 21 (hb hby d14_20) rfl rfl ?_
  refine Wk.callS W2 hx hoZ (y := (⟨"java/lang/StringUTF16", "charAt", "([BI)C"⟩ : MethodName)) (wd hw 118 rfl) (wd hw 119 rfl) (wd hw 69 rfl) (wd hw 120 rfl) (by decide) (Wd := 0) (CN.back (rmUCh3_1 l Z a0 hw fm b kb c0 c1 c2 h1 W2.old hAD hHI hLO w0 w1 w2 hFM hfm (Vb.keep K1 nin0)) W2.warm (wd hw 120 rfl) (wd hw 69 rfl) (by decide) (by decide)) (by rw [hml]; rfl) [(.ref b), (.int (1 : Int32))] [] (lenOf pd6 rfl) rfl rfl (Nat.le_of_eq rfl) 24 (hb hby d14_21) rfl (by decide) (by decide) (fun _ q => nomatch q) ?_
  intro v3 T3 h3 W3 K3 Ch3 Q3
  have H3 := W3.here; have z3 := K3.1
  obtain ⟨rfl, eh3⟩ := Q3
  show Goes p e below (PostN s Z h0 [] (QUSc3_1 Z cz fm a b kb c0 c1 c2 h0) ({ frames := 4, cells := 0, slots := 0, locals := 80 } : Room).cells ({ frames := 4, cells := 0, slots := 0, locals := 80 } : Room).slots) (T3.setTop (mkF m 24 #[.val (.ref a), .val (.int (1 : Int32))] [(.int c1)]))
  exact Wk.retN W3 hx c1 (t := .char) (nar_c16 w1) (by simp) hret hlk (hb hby d14_24) (by decide) (by decide) ⟨rfl, (by rw [eh3, eh1])⟩
def QUCk3_2 (Z : State) (fm : Value) (b : Addr) (kb : ClassId) (c0 : Int32) (c1 : Int32) (c2 : Int32) (h0 : Heap) : Option Value → Heap → Prop := fun v h => v = none ∧ h = h0
set_option maxRecDepth 65536 in
set_option maxHeartbeats 40000000 in
theorem rmUCk3_2 (l : Launch) (Z : State) (a0 : Array Value) (hw : ∀ d ∈ tables_1, d.before a0 Z = true) (fm : Value) (b : Addr) (kb : ClassId) (c0 : Int32) (c1 : Int32) (c2 : Int32) (h0 : Heap) (O : Ext Z.heap h0) (hFM : Sta Z Z.heap "jdk/internal/util/Preconditions" "SIOOBE_FORMATTER" "Ljava/util/function/BiFunction;" fm) (hfm : fm.isRef = true) (Vb : Arv Z h0 b kb .byte 6 [(.int (OwnKit.i2b c0)), (.int (OwnKit.i2b (c0 >>> ((8 : Int32) &&& 31)))), (.int (OwnKit.i2b c1)), (.int (OwnKit.i2b (c1 >>> ((8 : Int32) &&& 31)))), (.int (OwnKit.i2b c2)), (.int (OwnKit.i2b (c2 >>> ((8 : Int32) &&& 31))))] (.int 0)) :
    CN [] l Z (⟨"java/lang/StringUTF16", "checkIndex", "(I[B)V"⟩ : MethodName) jdk_52_method_91_code 2 (Option.none : Option Jvm.ClassFile.FieldType) ({ frames := 2, cells := 0, slots := 0, locals := 40 } : Room) #[(.int (2 : Int32)), (.ref b)] h0 [] (QUCk3_2 Z fm b kb c0 c1 c2 h0) := by
  refine CN.of_walk (plainFor_of_name pn2) O (fun _ q => nomatch q) ?_
  intro p e s m below meth c T0 W0 hx hby hml hoZ hnm hret hlk
  have H0 := W0.here; have hz0 := W0.zsize
  refine Goes.cast (ef11 m (2 : Int32) b) ?_
  refine G.iloadN H0 hx 1 (hb hby d25_0) rfl rfl ?_
  refine G.aloadN H0 hx 2 (hb hby d25_1) rfl rfl rfl ?_
  refine Wk.callS W0 hx hoZ (y := (⟨"java/lang/StringUTF16", "length", "([B)I"⟩ : MethodName)) (wd hw 124 rfl) (wd hw 125 rfl) (wd hw 69 rfl) (wd hw 126 rfl) (by decide) (Wd := 1) (CN.back (rmULn3 l Z a0 hw b kb (OwnKit.i2b c0) (OwnKit.i2b (c0 >>> ((8 : Int32) &&& 31))) (OwnKit.i2b c1) (OwnKit.i2b (c1 >>> ((8 : Int32) &&& 31))) (OwnKit.i2b c2) (OwnKit.i2b (c2 >>> ((8 : Int32) &&& 31))) h0 W0.old Vb) W0.warm (wd hw 126 rfl) (wd hw 69 rfl) (by decide) (by decide)) (by rw [hml]; rfl) [(.ref b)] [(.int (2 : Int32))] (lenOf pd10 rfl) rfl rfl (Nat.le_of_eq rfl) 5 (hb hby d25_2) rfl (by decide) (by decide) (fun _ q => nomatch q) ?_
  intro v1 T1 h1 W1 K1 Ch1 Q1
  have H1 := W1.here; have z1 := K1.1
  obtain ⟨rfl, eh1⟩ := Q1
  show Goes p e below (PostN s Z h0 [] (QUCk3_2 Z fm b kb c0 c1 c2 h0) ({ frames := 2, cells := 0, slots := 0, locals := 40 } : Room).cells ({ frames := 2, cells := 0, slots := 0, locals := 40 } : Room).slots) (T1.setTop (mkF m 5 #[.val (.int (2 : Int32)), .val (.ref b)] [(.int (3 : Int32)), (.int (2 : Int32))]))
  refine Wk.callS W1 hx hoZ (y := (⟨"java/lang/String", "checkIndex", "(II)V"⟩ : MethodName)) (wd hw 127 rfl) (wd hw 92 rfl) (wd hw 3 rfl) (wd hw 93 rfl) (by decide) (Wd := 0) (CN.back (rmSCk l Z a0 hw fm (2 : Int32) (3 : Int32) h1 W1.old hFM hfm (by decide) (by decide)) W1.warm (wd hw 93 rfl) (wd hw 3 rfl) (by decide) (by decide)) (by rw [hml]; rfl) [(.int (2 : Int32)), (.int (3 : Int32))] [] (lenOf pd11 rfl) rfl rfl (Nat.le_of_eq rfl) 8 (hb hby d25_5) rfl (by decide) (by decide) (fun _ q => nomatch q) ?_
  intro v2 T2 h2 W2 K2 Ch2 Q2
  have H2 := W2.here; have z2 := K2.1
  obtain ⟨rfl, eh2⟩ := Q2
  show Goes p e below (PostN s Z h0 [] (QUCk3_2 Z fm b kb c0 c1 c2 h0) ({ frames := 2, cells := 0, slots := 0, locals := 40 } : Room).cells ({ frames := 2, cells := 0, slots := 0, locals := 40 } : Room).slots) (T2.setTop (mkF m 8 #[.val (.int (2 : Int32)), .val (.ref b)] []))
  exact Wk.retV W2 hx hret hlk (hb hby d25_8) (by decide) (by decide) ⟨rfl, (by rw [eh2, eh1])⟩
def QUCh3_2 (Z : State) (fm : Value) (b : Addr) (kb : ClassId) (c0 : Int32) (c1 : Int32) (c2 : Int32) (h0 : Heap) : Option Value → Heap → Prop := fun v h => v = some (.int c2) ∧ h = h0
set_option maxRecDepth 65536 in
set_option maxHeartbeats 40000000 in
theorem rmUCh3_2 (l : Launch) (Z : State) (a0 : Array Value) (hw : ∀ d ∈ tables_1, d.before a0 Z = true) (fm : Value) (b : Addr) (kb : ClassId) (c0 : Int32) (c1 : Int32) (c2 : Int32) (h0 : Heap) (O : Ext Z.heap h0) (hAD : Sta Z Z.heap "java/lang/StringUTF16" "$assertionsDisabled" "Z" (.int 1)) (hHI : Sta Z Z.heap "java/lang/StringUTF16" "HI_BYTE_SHIFT" "I" (.int 0)) (hLO : Sta Z Z.heap "java/lang/StringUTF16" "LO_BYTE_SHIFT" "I" (.int 8)) (w0 : C16 c0) (w1 : C16 c1) (w2 : C16 c2) (hFM : Sta Z Z.heap "jdk/internal/util/Preconditions" "SIOOBE_FORMATTER" "Ljava/util/function/BiFunction;" fm) (hfm : fm.isRef = true) (Vb : Arv Z h0 b kb .byte 6 [(.int (OwnKit.i2b c0)), (.int (OwnKit.i2b (c0 >>> ((8 : Int32) &&& 31)))), (.int (OwnKit.i2b c1)), (.int (OwnKit.i2b (c1 >>> ((8 : Int32) &&& 31)))), (.int (OwnKit.i2b c2)), (.int (OwnKit.i2b (c2 >>> ((8 : Int32) &&& 31))))] (.int 0)) :
    CN [] l Z (⟨"java/lang/StringUTF16", "charAt", "([BI)C"⟩ : MethodName) jdk_52_method_83_code 2 (Option.some Jvm.ClassFile.FieldType.char) ({ frames := 3, cells := 0, slots := 0, locals := 60 } : Room) #[(.ref b), (.int (2 : Int32))] h0 [] (QUCh3_2 Z fm b kb c0 c1 c2 h0) := by
  refine CN.of_walk (plainFor_of_name pn2) O (fun _ q => nomatch q) ?_
  intro p e s m below meth c T0 W0 hx hby hml hoZ hnm hret hlk
  have H0 := W0.here; have hz0 := W0.zsize
  refine Goes.cast (ef4 m b (2 : Int32)) ?_
  refine G.iloadN H0 hx 1 (hb hby d24_0) rfl rfl ?_
  refine G.aloadN H0 hx 2 (hb hby d24_1) rfl rfl rfl ?_
  refine Wk.callS W0 hx hoZ (y := (⟨"java/lang/StringUTF16", "checkIndex", "(I[B)V"⟩ : MethodName)) (wd hw 121 rfl) (wd hw 122 rfl) (wd hw 69 rfl) (wd hw 123 rfl) (by decide) (Wd := 0) (CN.back (rmUCk3_2 l Z a0 hw fm b kb c0 c1 c2 h0 W0.old hFM hfm Vb) W0.warm (wd hw 123 rfl) (wd hw 69 rfl) (by decide) (by decide)) (by rw [hml]; rfl) [(.int (2 : Int32)), (.ref b)] [] (lenOf pd12 rfl) rfl rfl (Nat.le_of_eq rfl) 5 (hb hby d24_2) rfl (by decide) (by decide) (fun _ q => nomatch q) ?_
  intro v1 T1 h1 W1 K1 Ch1 Q1
  have H1 := W1.here; have z1 := K1.1
  obtain ⟨rfl, eh1⟩ := Q1
  show Goes p e below (PostN s Z h0 [] (QUCh3_2 Z fm b kb c0 c1 c2 h0) ({ frames := 3, cells := 0, slots := 0, locals := 60 } : Room).cells ({ frames := 3, cells := 0, slots := 0, locals := 60 } : Room).slots) (T1.setTop (mkF m 5 #[.val (.ref b), .val (.int (2 : Int32))] []))
  refine G.aloadN H1 hx 6 (hb hby d24_5) rfl rfl rfl ?_
  refine G.iloadN H1 hx 7 (hb hby d24_6) rfl rfl ?_
  refine Wk.callS W1 hx hoZ (y := (⟨"java/lang/StringUTF16", "getChar", "([BI)C"⟩ : MethodName)) (wd hw 115 rfl) (wd hw 116 rfl) (wd hw 69 rfl) (wd hw 117 rfl) (by decide) (Wd := 0) (CN.back (rmUGc3_2 l Z a0 hw b kb (OwnKit.i2b c0) (OwnKit.i2b (c0 >>> ((8 : Int32) &&& 31))) (OwnKit.i2b c1) (OwnKit.i2b (c1 >>> ((8 : Int32) &&& 31))) (OwnKit.i2b c2) (OwnKit.i2b (c2 >>> ((8 : Int32) &&& 31))) h1 W1.old hAD hHI hLO (Vb.keep K1 nin0)) W1.warm (wd hw 117 rfl) (wd hw 69 rfl) (by decide) (by decide)) (by rw [hml]; rfl) [(.ref b), (.int (2 : Int32))] [] (lenOf pd6 rfl) rfl rfl (Nat.le_of_eq rfl) 10 (hb hby d24_7) rfl (by decide) (by decide) (fun _ q => nomatch q) ?_
  intro v2 T2 h2 W2 K2 Ch2 Q2
  have H2 := W2.here; have z2 := K2.1
  obtain ⟨rfl, eh2⟩ := Q2
  show Goes p e below (PostN s Z h0 [] (QUCh3_2 Z fm b kb c0 c1 c2 h0) ({ frames := 3, cells := 0, slots := 0, locals := 60 } : Room).cells ({ frames := 3, cells := 0, slots := 0, locals := 60 } : Room).slots) (T2.setTop (mkF m 10 #[.val (.ref b), .val (.int (2 : Int32))] [(.int (OwnKit.i2c ((((OwnKit.i2b c2) &&& (255 : Int32)) <<< ((0 : Int32) &&& 31)) ||| (((OwnKit.i2b (c2 >>> ((8 : Int32) &&& 31))) &&& (255 : Int32)) <<< ((8 : Int32) &&& 31)))))]))
  rw [pair16 w2]
  show Goes p e below (PostN s Z h0 [] (QUCh3_2 Z fm b kb c0 c1 c2 h0) ({ frames := 3, cells := 0, slots := 0, locals := 60 } : Room).cells ({ frames := 3, cells := 0, slots := 0, locals := 60 } : Room).slots) (T2.setTop (mkF m 10 #[.val (.ref b), .val (.int (2 : Int32))] [(.int c2)]))
  exact Wk.retN W2 hx c2 (t := .char) (nar_c16 w2) (by simp) hret hlk (hb hby d24_10) (by decide) (by decide) ⟨rfl, (by rw [eh2, eh1])⟩
def QUSc3_2 (Z : State) (cz : Int32) (fm : Value) (a : Addr) (b : Addr) (kb : ClassId) (c0 : Int32) (c1 : Int32) (c2 : Int32) (h0 : Heap) : Option Value → Heap → Prop := fun v h => v = some (.int c2) ∧ h = h0
set_option maxRecDepth 65536 in
set_option maxHeartbeats 40000000 in
theorem rmUSc3_2 (l : Launch) (Z : State) (a0 : Array Value) (hw : ∀ d ∈ tables_1, d.before a0 Z = true) (cz : Int32) (fm : Value) (a : Addr) (b : Addr) (kb : ClassId) (c0 : Int32) (c1 : Int32) (c2 : Int32) (h0 : Heap) (O : Ext Z.heap h0) (hAD : Sta Z Z.heap "java/lang/StringUTF16" "$assertionsDisabled" "Z" (.int 1)) (hHI : Sta Z Z.heap "java/lang/StringUTF16" "HI_BYTE_SHIFT" "I" (.int 0)) (hLO : Sta Z Z.heap "java/lang/StringUTF16" "LO_BYTE_SHIFT" "I" (.int 8)) (w0 : C16 c0) (w1 : C16 c1) (w2 : C16 c2) (hFM : Sta Z Z.heap "jdk/internal/util/Preconditions" "SIOOBE_FORMATTER" "Ljava/util/function/BiFunction;" fm) (hfm : fm.isRef = true) (hCS : Sta Z Z.heap "java/lang/String" "COMPACT_STRINGS" "Z" (.int cz)) (hcz : ¬ cz = 0) (Ea : Exa Z h0 a "java/lang/String") (Fc : Fld Z h0 a "java/lang/String" "coder" "B" (.int 1)) (Fv : Fld Z h0 a "java/lang/String" "value" "[B" (.ref b)) (Vb : Arv Z h0 b kb .byte 6 [(.int (OwnKit.i2b c0)), (.int (OwnKit.i2b (c0 >>> ((8 : Int32) &&& 31)))), (.int (OwnKit.i2b c1)), (.int (OwnKit.i2b (c1 >>> ((8 : Int32) &&& 31)))), (.int (OwnKit.i2b c2)), (.int (OwnKit.i2b (c2 >>> ((8 : Int32) &&& 31))))] (.int 0)) :
    CN [] l Z (⟨"java/lang/String", "charAt", "(I)C"⟩ : MethodName) jdk_42_method_56_code 2 (Option.some Jvm.ClassFile.FieldType.char) ({ frames := 4, cells := 0, slots := 0, locals := 80 } : Room) #[(.ref a), (.int (2 : Int32))] h0 [] (QUSc3_2 Z cz fm a b kb c0 c1 c2 h0) := by
  refine CN.of_walk (plainFor_of_name pn0) O (fun _ q => nomatch q) ?_
  intro p e s m below meth c T0 W0 hx hby hml hoZ hnm hret hlk
  have H0 := W0.here; have hz0 := W0.zsize
  refine Goes.cast (ef4 m a (2 : Int32)) ?_
  refine G.aloadN H0 hx 1 (hb hby d14_0) rfl rfl rfl ?_
  refine Wk.virtual W0 hx hoZ (y := (⟨"java/lang/String", "isLatin1", "()Z"⟩ : MethodName)) (z := (⟨"java/lang/String", "isLatin1", "()Z"⟩ : MethodName)) (wd hw 82 rfl) (wd hw 83 rfl) (wd hw 85 rfl) (wd hw 84 rfl) (W0.nf (wd hw 85 rfl)) (by decide) (Wd := 0) (CN.back (rmLatW l Z a0 hw cz a h0 W0.old hCS hcz Ea Fc) W0.warm (wd hw 86 rfl) (wd hw 3 rfl) (by decide) (by decide)) Ea (by rw [hml]; rfl) [] [] (lenOf pd13 rfl) rfl rfl (Nat.le_of_eq rfl) 4 (hb hby d14_1) rfl (by decide) (by decide) (fun _ q => nomatch q) ?_
  intro v1 T1 h1 W1 K1 Ch1 Q1
  have H1 := W1.here; have z1 := K1.1
  obtain ⟨rfl, eh1⟩ := Q1
  show Goes p e below (PostN s Z h0 [] (QUSc3_2 Z cz fm a b kb c0 c1 c2 h0) ({ frames := 4, cells := 0, slots := 0, locals := 80 } : Room).cells ({ frames := 4, cells := 0, slots := 0, locals := 80 } : Room).slots) (T1.setTop (mkF m 4 #[.val (.ref a), .val (.int (2 : Int32))] [(.int (0 : Int32))]))
  refine G.ifY H1 hx 16 (hb hby d14_4) (zeq (by decide)).1 (by decide) rfl ?_
  refine G.aloadN H1 hx 17 (hb hby d14_16) rfl rfl rfl ?_
  refine Wk.getF W1 hx hoZ (host := "") (Or.inl (wd hw 20 rfl)) Via.refl (Fv.keep K1 nin0) 20 (hb hby d14_17) rfl ?_
  intro T2 W2; have H2 := W2.here
  refine G.iloadN H2 hx 21 (hb hby d14_20) rfl rfl ?_
  refine Wk.callS W2 hx hoZ (y := (⟨"java/lang/StringUTF16", "charAt", "([BI)C"⟩ : MethodName)) (wd hw 118 rfl) (wd hw 119 rfl) (wd hw 69 rfl) (wd hw 120 rfl) (by decide) (Wd := 0) (CN.back (rmUCh3_2 l Z a0 hw fm b kb c0 c1 c2 h1 W2.old hAD hHI hLO w0 w1 w2 hFM hfm (Vb.keep K1 nin0)) W2.warm (wd hw 120 rfl) (wd hw 69 rfl) (by decide) (by decide)) (by rw [hml]; rfl) [(.ref b), (.int (2 : Int32))] [] (lenOf pd6 rfl) rfl rfl (Nat.le_of_eq rfl) 24 (hb hby d14_21) rfl (by decide) (by decide) (fun _ q => nomatch q) ?_
  intro v3 T3 h3 W3 K3 Ch3 Q3
  have H3 := W3.here; have z3 := K3.1
  obtain ⟨rfl, eh3⟩ := Q3
  show Goes p e below (PostN s Z h0 [] (QUSc3_2 Z cz fm a b kb c0 c1 c2 h0) ({ frames := 4, cells := 0, slots := 0, locals := 80 } : Room).cells ({ frames := 4, cells := 0, slots := 0, locals := 80 } : Room).slots) (T3.setTop (mkF m 24 #[.val (.ref a), .val (.int (2 : Int32))] [(.int c2)]))
  exact Wk.retN W3 hx c2 (t := .char) (nar_c16 w2) (by simp) hret hlk (hb hby d14_24) (by decide) (by decide) ⟨rfl, (by rw [eh3, eh1])⟩
def QPin (Z : State) (a : Addr) (x0 : Value) (x1 : Value) (h0 : Heap) : Option Value → Heap → Prop := fun v h => v = none ∧ Exa Z h a "com/example/nuntius/nuntius/http/ParameterValue" ∧ Fld Z h a "com/example/nuntius/nuntius/http/ParameterValue" "kind" "Lcom/example/nuntius/nuntius/http/ParameterValue$Kind;" x0 ∧ Fld Z h a "com/example/nuntius/nuntius/http/ParameterValue" "text" "Ljava/lang/String;" x1
set_option maxRecDepth 65536 in
set_option maxHeartbeats 40000000 in
theorem rmPin (l : Launch) (Z : State) (a0 : Array Value) (hw : ∀ d ∈ tables_1, d.before a0 Z = true) (a : Addr) (x0 : Value) (x1 : Value) (h0 : Heap) (O : Ext Z.heap h0) (gz_a : Z.heap.size ≤ a) (Ea : Exa Z h0 a "com/example/nuntius/nuntius/http/ParameterValue") (hr0 : x0.isRef = true) (hr1 : x1.isRef = true) (F_kind : Fld Z h0 a "com/example/nuntius/nuntius/http/ParameterValue" "kind" "Lcom/example/nuntius/nuntius/http/ParameterValue$Kind;" .null) (F_text : Fld Z h0 a "com/example/nuntius/nuntius/http/ParameterValue" "text" "Ljava/lang/String;" .null) :
    CN [] l Z (⟨"com/example/nuntius/nuntius/http/ParameterValue", "<init>", "(Lcom/example/nuntius/nuntius/http/ParameterValue$Kind;Ljava/lang/String;)V"⟩ : MethodName) prog_15_method_1_code 3 (Option.none : Option Jvm.ClassFile.FieldType) ({ frames := 2, cells := 0, slots := 0, locals := 30 } : Room) #[(.ref a), x0, x1] h0 [a] (QPin Z a x0 x1 h0) := by
  refine CN.of_walk (plainFor_of_name pn4) O (ala gz_a ala0) ?_
  intro p e s m below meth c T0 W0 hx hby hml hoZ hnm hret hlk
  have H0 := W0.here; have hz0 := W0.zsize
  refine Goes.cast (ef12 m a x0 (cat_ref hr0) x1 (cat_ref hr1)) ?_
  refine G.aloadN H0 hx 1 (hb hby d5_0) rfl rfl rfl ?_
  refine Wk.special W0 hx hoZ (y := (⟨"java/lang/Record", "<init>", "()V"⟩ : MethodName)) rfl (wd hw 34 rfl) (wd hw 35 rfl) (wd hw 38 rfl) (by decide) (Wd := 0) (CN.back (rmRec l Z a0 hw a h0 W0.old ) W0.warm (wd hw 38 rfl) (wd hw 37 rfl) (by decide) (by decide)) a (by rw [hml]; rfl) [] [] (lenOf pd14 rfl) rfl rfl (Nat.le_of_eq rfl) 4 (hb hby d5_1) rfl (by decide) (by decide) (fun _ q => nomatch q) ?_
  intro v1 T1 h1 W1 K1 Ch1 Q1
  have H1 := W1.here; have z1 := K1.1
  obtain ⟨rfl, eh1⟩ := Q1
  show Goes p e below (PostN s Z h0 [a] (QPin Z a x0 x1 h0) ({ frames := 2, cells := 0, slots := 0, locals := 30 } : Room).cells ({ frames := 2, cells := 0, slots := 0, locals := 30 } : Room).slots) (T1.setTop (mkF m 4 #[.val (.ref a), .val x0, .val x1] []))
  refine G.aloadN H1 hx 5 (hb hby d5_4) rfl rfl rfl ?_
  refine G.aloadN H1 hx 6 (hb hby d5_5) rfl hr0 rfl ?_
  refine Wk.putF W1 hx hoZ (wd hw 40 rfl) Via.refl x0 (F_kind.keep K1 nin0) (Ea.keep K1) (Or.inr ⟨(wd hw 41 rfl), rfl, hnm⟩) (wd hw 27 rfl) (ty := (.object "com/example/nuntius/nuntius/http/ParameterValue$Kind")) (by decide) (ref_nar rfl hr0).1 (ref_nar rfl hr0).2 (Or.inl (by simp)) safe0 9 (hb hby d5_6) rfl ?_
  intro T2 h2 W2 R2 Ch2; have H2 := W2.here; have z2 := R2.size
  have F2 := ((F_kind.keep K1 nin0)).same R2
  refine G.aloadN H2 hx 10 (hb hby d5_9) rfl rfl rfl ?_
  refine G.aloadN H2 hx 11 (hb hby d5_10) rfl hr1 rfl ?_
  refine Wk.putF W2 hx hoZ (wd hw 42 rfl) Via.refl x1 ((F_text.keep K1 nin0).other R2 (Or.inr (slot_ne (Or.inr (wd hw 43 rfl)) (Or.inr (wd hw 41 rfl)) (by decide) (t := (.object "java/lang/String")) (t' := (.object "com/example/nuntius/nuntius/http/ParameterValue$Kind")) (by decide) (by decide)))) ((Ea.keep K1).wr R2) (Or.inr ⟨(wd hw 43 rfl), rfl, hnm⟩) (wd hw 27 rfl) (ty := (.object "java/lang/String")) (by decide) (ref_nar rfl hr1).1 (ref_nar rfl hr1).2 (Or.inl (by simp)) safe0 14 (hb hby d5_11) rfl ?_
  intro T3 h3 W3 R3 Ch3; have H3 := W3.here; have z3 := R3.size
  have F3 := (((F_text.keep K1 nin0).other R2 (Or.inr (slot_ne (Or.inr (wd hw 43 rfl)) (Or.inr (wd hw 41 rfl)) (by decide) (t := (.object "java/lang/String")) (t' := (.object "com/example/nuntius/nuntius/http/ParameterValue$Kind")) (by decide) (by decide))))).same R3
  exact Wk.retV W3 hx hret hlk (hb hby d5_14) (by decide) (by decide) ⟨rfl, (((Ea.keep K1).wr R2).wr R3), (F2.other R3 (Or.inr (slot_ne (Or.inr (wd hw 41 rfl)) (Or.inr (wd hw 43 rfl)) (by decide) (t := (.object "com/example/nuntius/nuntius/http/ParameterValue$Kind")) (t' := (.object "java/lang/String")) (by decide) (by decide)))), F3⟩
def QNum (Z : State) (kv : Value) (t : Addr) (h0 : Heap) : Option Value → Heap → Prop := fun v h => ∃ a : Addr, v = some (.ref a) ∧ h0.size ≤ a ∧ Exa Z h a "com/example/nuntius/nuntius/http/ParameterValue" ∧ Fld Z h a "com/example/nuntius/nuntius/http/ParameterValue" "kind" "Lcom/example/nuntius/nuntius/http/ParameterValue$Kind;" kv ∧ Fld Z h a "com/example/nuntius/nuntius/http/ParameterValue" "text" "Ljava/lang/String;" (.ref t)
set_option maxRecDepth 65536 in
set_option maxHeartbeats 40000000 in
theorem rmNum (l : Launch) (Z : State) (a0 : Array Value) (hw : ∀ d ∈ tables_1, d.before a0 Z = true) (kv : Value) (t : Addr) (h0 : Heap) (O : Ext Z.heap h0) (hNB : Sta Z Z.heap "com/example/nuntius/nuntius/http/ParameterValue$Kind" "TEXT" "Lcom/example/nuntius/nuntius/http/ParameterValue$Kind;" kv) (hkv : kv.isRef = true) :
    CN [] l Z (⟨"com/example/nuntius/nuntius/http/ParameterValue", "of", "(Ljava/lang/String;)Lcom/example/nuntius/nuntius/http/ParameterValue;"⟩ : MethodName) prog_15_method_2_code 1 (Option.some (Jvm.ClassFile.FieldType.object "com/example/nuntius/nuntius/http/ParameterValue")) ({ frames := 3, cells := 1, slots := 2, locals := 50 } : Room) #[(.ref t)] h0 [] (QNum Z kv t h0) := by
  refine CN.of_walk (plainFor_of_name pn4) O (fun _ q => nomatch q) ?_
  intro p e s m below meth c T0 W0 hx hby hml hoZ hnm hret hlk
  have H0 := W0.here; have hz0 := W0.zsize
  refine Goes.cast (ef2 m t) ?_
  refine Wk.newO W0 hx hoZ (wd hw 26 rfl) (wd hw 27 rfl) (wd hw 24 rfl) 3 (hb hby d4_0) rfl (by decide) (by decide) ?_
  intro T1 h1 a1 W1 E1 g1 A1 D1 S1
  have H1 := W1.here; have z1 := E1.1; have gu1 := Nat.le_of_eq g1; have gt1 := Nat.le_of_eq g1.symm; have l1 := ltN A1.lt
  refine G.dup H1 hx 4 (hb hby d4_3) rfl rfl ?_
  refine Wk.getS W1 hx hoZ (wd hw 28 rfl) Via.refl (hNB.ext W1.old) 7 (hb hby d4_4) rfl ?_
  intro T2 W2; have H2 := W2.here
  refine G.aloadN H2 hx 8 (hb hby d4_7) rfl rfl rfl ?_
  refine Wk.special W2 hx hoZ (y := (⟨"com/example/nuntius/nuntius/http/ParameterValue", "<init>", "(Lcom/example/nuntius/nuntius/http/ParameterValue$Kind;Ljava/lang/String;)V"⟩ : MethodName)) rfl (wd hw 31 rfl) (wd hw 32 rfl) (wd hw 33 rfl) (by decide) (Wd := 1) (CN.back (rmPin l Z a0 hw a1 kv (.ref t) h1 W2.old (by omega) A1 hkv rfl (D1 (Or.inr (wd hw 41 rfl)) (ty := (.object "com/example/nuntius/nuntius/http/ParameterValue$Kind")) (by decide)) (D1 (Or.inr (wd hw 43 rfl)) (ty := (.object "java/lang/String")) (by decide))) W2.warm (wd hw 33 rfl) (wd hw 24 rfl) (by decide) (by decide)) a1 (by rw [hml]; rfl) [kv, (.ref t)] [(.ref a1)] (lenOf pd15 rfl) rfl rfl (Nat.le_of_eq rfl) 11 (hb hby d4_8) rfl (by decide) (by decide) (hws1 (Or.inr (by omega)) safe0) ?_
  intro v3 T3 h3 W3 K3 Ch3 Q3
  have H3 := W3.here; have z3 := K3.1
  obtain ⟨rfl, X3, F3_kind, F3_text⟩ := Q3
  show Goes p e below (PostN s Z h0 [] (QNum Z kv t h0) ({ frames := 3, cells := 1, slots := 2, locals := 50 } : Room).cells ({ frames := 3, cells := 1, slots := 2, locals := 50 } : Room).slots) (T3.setTop (mkF m 11 #[.val (.ref t)] [(.ref a1)]))
  exact Wk.retA W3 hx (t := (.object "com/example/nuntius/nuntius/http/ParameterValue")) rfl rfl hret hlk (hb hby d4_11) (by decide) (by decide) ⟨_, rfl, by omega, X3, F3_kind, F3_text⟩
def QKd (Z : State) (a : Addr) (x : Value) (h0 : Heap) : Option Value → Heap → Prop := fun v h => v = some x ∧ h = h0
set_option maxRecDepth 65536 in
set_option maxHeartbeats 40000000 in
theorem rmKd (l : Launch) (Z : State) (a0 : Array Value) (hw : ∀ d ∈ tables_1, d.before a0 Z = true) (a : Addr) (x : Value) (h0 : Heap) (O : Ext Z.heap h0) (Fx : Fld Z h0 a "com/example/nuntius/nuntius/http/ParameterValue" "kind" "Lcom/example/nuntius/nuntius/http/ParameterValue$Kind;" x) (hr : x.isRef = true) :
    CN [] l Z (⟨"com/example/nuntius/nuntius/http/ParameterValue", "kind", "()Lcom/example/nuntius/nuntius/http/ParameterValue$Kind;"⟩ : MethodName) prog_15_method_7_code 1 (Option.some (Jvm.ClassFile.FieldType.object "com/example/nuntius/nuntius/http/ParameterValue$Kind")) ({ frames := 0, cells := 0, slots := 0, locals := 0 } : Room) #[(.ref a)] h0 [] (QKd Z a x h0) := by
  refine CN.of_walk (plainFor_of_name pn4) O (fun _ q => nomatch q) ?_
  intro p e s m below meth c T0 W0 hx hby hml hoZ hnm hret hlk
  have H0 := W0.here; have hz0 := W0.zsize
  refine Goes.cast (ef2 m a) ?_
  refine G.aloadN H0 hx 1 (hb hby d7_0) rfl rfl rfl ?_
  refine Wk.getF W0 hx hoZ (host := "") (Or.inl (wd hw 40 rfl)) Via.refl Fx 4 (hb hby d7_1) rfl ?_
  intro T1 W1; have H1 := W1.here
  exact Wk.retA W1 hx (t := (.object "com/example/nuntius/nuntius/http/ParameterValue$Kind")) rfl hr hret hlk (hb hby d7_4) (by decide) (by decide) ⟨rfl, rfl⟩
def QTx (Z : State) (a : Addr) (x : Value) (h0 : Heap) : Option Value → Heap → Prop := fun v h => v = some x ∧ h = h0
set_option maxRecDepth 65536 in
set_option maxHeartbeats 40000000 in
theorem rmTx (l : Launch) (Z : State) (a0 : Array Value) (hw : ∀ d ∈ tables_1, d.before a0 Z = true) (a : Addr) (x : Value) (h0 : Heap) (O : Ext Z.heap h0) (Fx : Fld Z h0 a "com/example/nuntius/nuntius/http/ParameterValue" "text" "Ljava/lang/String;" x) (hr : x.isRef = true) :
    CN [] l Z (⟨"com/example/nuntius/nuntius/http/ParameterValue", "text", "()Ljava/lang/String;"⟩ : MethodName) prog_15_method_8_code 1 (Option.some (Jvm.ClassFile.FieldType.object "java/lang/String")) ({ frames := 0, cells := 0, slots := 0, locals := 0 } : Room) #[(.ref a)] h0 [] (QTx Z a x h0) := by
  refine CN.of_walk (plainFor_of_name pn4) O (fun _ q => nomatch q) ?_
  intro p e s m below meth c T0 W0 hx hby hml hoZ hnm hret hlk
  have H0 := W0.here; have hz0 := W0.zsize
  refine Goes.cast (ef2 m a) ?_
  refine G.aloadN H0 hx 1 (hb hby d8_0) rfl rfl rfl ?_
  refine Wk.getF W0 hx hoZ (host := "") (Or.inl (wd hw 42 rfl)) Via.refl Fx 4 (hb hby d8_1) rfl ?_
  intro T1 W1; have H1 := W1.here
  exact Wk.retA W1 hx (t := (.object "java/lang/String")) rfl hr hret hlk (hb hby d8_4) (by decide) (by decide) ⟨rfl, rfl⟩
def Q0 (Z : State) (cz : Int32) (fm : Value) (kv : Value) (p0 : Int32) (p1 : Int32) (p2 : Int32) (p3 : Int32) (h0 : Heap) : Option Value → Heap → Prop := fun v h => v = some (.int 1)
set_option maxRecDepth 65536 in
set_option maxHeartbeats 40000000 in
theorem rm0 (l : Launch) (Z : State) (a0 : Array Value) (hw : ∀ d ∈ tables_1, d.before a0 Z = true) (cz : Int32) (fm : Value) (kv : Value) (p0 : Int32) (p1 : Int32) (p2 : Int32) (p3 : Int32) (h0 : Heap) (O : Ext Z.heap h0) (hCS : Sta Z Z.heap "java/lang/String" "COMPACT_STRINGS" "Z" (.int cz)) (hcz : ¬ cz = 0) (hFM : Sta Z Z.heap "jdk/internal/util/Preconditions" "SIOOBE_FORMATTER" "Ljava/util/function/BiFunction;" fm) (hfm : fm.isRef = true) (hAD : Sta Z Z.heap "java/lang/StringUTF16" "$assertionsDisabled" "Z" (.int 1)) (hHI : Sta Z Z.heap "java/lang/StringUTF16" "HI_BYTE_SHIFT" "I" (.int 0)) (hLO : Sta Z Z.heap "java/lang/StringUTF16" "LO_BYTE_SHIFT" "I" (.int 8)) (hNB : Sta Z Z.heap "com/example/nuntius/nuntius/http/ParameterValue$Kind" "TEXT" "Lcom/example/nuntius/nuntius/http/ParameterValue$Kind;" kv) (hkv : kv.isRef = true) :
    CW tables_1 l Z consts_1 x code maxLocals ret room_1 #[(.int p0), (.int p1), (.int p2), (.int p3)] h0 [] (Q0 Z cz fm kv p0 p1 p2 p3 h0) := by
  refine CW.of_walk (plainFor_of_name pn5) O (fun _ q => nomatch q) ?_
  intro p e s m below meth c T0 W0 hsf hx hby hml hoZ hnm hret hlk
  have H0 := W0.here; have hz0 := W0.zsize; have hEL := elw hw
  refine Goes.cast (ef13 m p0 p1 p2 p3) ?_
  refine G.iloadN H0 hx 1 (hb hby at_0) rfl rfl ?_
  refine G.iconst H0 hx 2 (3 : Int32) (hb hby at_1) rfl rfl ?_
  refine G.iand H0 hx 3 (hb hby at_2) rfl ?_
  refine G.istore H0 hx 5 (fun v => #[.val (.int p0), .val (.int p1), .val (.int p2), .val (.int p3), .val (.int v), .unset, .unset, .unset, .unset]) (hb hby at_3) (fun _ => rfl) rfl ?_
  intro v1 hv1
  rcases own_m4 hv1 with rfl | rfl | rfl | rfl
  ·
    refine G.iload H0 hx 7 (hb hby at_5) rfl rfl ?_
    refine Wk.newP W0 hx (wd hw 0 rfl) 9 (hb hby at_7) (by decide) 0 (by decide) rfl (by decide) (by decide) (by decide) ?_
    intro T2 h2 a2 k2 W2 E2 g2 V2 S2
    have H2 := W2.here; have z2 := E2.1; have gu2 := Nat.le_of_eq g2; have gt2 := Nat.le_of_eq g2.symm; have l2 := ltN V2.lt
    have V2 : Arv Z h2 a2 k2 .char (0 : Int32) [] (.int (0 : Int32)) := V2
    refine G.astore H2 hx 11 #[.val (.int p0), .val (.int p1), .val (.int p2), .val (.int p3), .val (.int (0 : Int32)), .val (.ref a2), .unset, .unset, .unset] (hb hby at_9) rfl rfl rfl ?_
    refine G.iload H2 hx 13 (hb hby at_11) rfl rfl ?_
    refine G.ifY H2 hx 25 (hb hby at_13) (zng (by decide)).2 (by decide) rfl ?_
    refine G.iload H2 hx 27 (hb hby at_25) rfl rfl ?_
    refine G.iconst H2 hx 28 (1 : Int32) (hb hby at_27) rfl rfl ?_
    refine G.icmpY H2 hx 40 (hb hby at_28) (flt (by decide)).2.2.2 (by decide) rfl ?_
    refine G.iload H2 hx 42 (hb hby at_40) rfl rfl ?_
    refine G.iconst H2 hx 43 (2 : Int32) (hb hby at_42) rfl rfl ?_
    refine G.icmpY H2 hx 55 (hb hby at_43) (flt (by decide)).2.2.2 (by decide) rfl ?_
    refine Wk.newO W2 hx hoZ (wd hw 1 rfl) (wd hw 2 rfl) (wd hw 3 rfl) 58 (hb hby at_55) rfl (by decide) (by decide) ?_
    intro T3 h3 a3 W3 E3 g3 A3 D3 S3
    have H3 := W3.here; have z3 := E3.1; have gu3 := Nat.le_of_eq g3; have gt3 := Nat.le_of_eq g3.symm; have l3 := ltN A3.lt
    refine G.dup H3 hx 59 (hb hby at_58) rfl rfl ?_
    refine G.aload H3 hx 61 (hb hby at_59) rfl rfl rfl ?_
    refine Wk.specialW W3 hx hoZ (y := (⟨"java/lang/String", "<init>", "([C)V"⟩ : MethodName)) rfl (wd hw 4 rfl) (wd hw 5 rfl) (wd hw 6 rfl) (by decide) (Wd := 1) (CW.back (rmEm1 l Z a0 hw a3 a2 k2 h3 W3.old (by omega) A3 (D3 (Or.inr (wd hw 16 rfl)) (ty := (.array .byte)) (by decide)) (D3 (Or.inr (wd hw 17 rfl)) (ty := .byte) (by decide)) (V2.ext E3)) W3.warm (wd hw 6 rfl) (wd hw 3 rfl) (by decide) (by decide) hEL W3.ch (all1 (by omega)) (ala S3 ala0)) a3 (by rw [hml]; rfl) [(.ref a2)] [(.ref a3)] (lenOf pd16 rfl) rfl rfl (Nat.le_of_eq rfl) 64 (hb hby at_61) rfl (by decide) (by decide) (hws1 (Or.inr (by omega)) S3) ?_
    intro v4 vm4 T4 h4 W4 K4 Ch4 Q4
    have H4 := W4.here; have z4 := K4.1
    obtain ⟨rfl, Sv4⟩ := Q4
    show Goes p e below (PostW s Z consts_1 h0 [] (Q0 Z cz fm kv p0 p1 p2 p3 h0) room_1.cells room_1.slots) (T4.setTop (mkF m 64 #[.val (.int p0), .val (.int p1), .val (.int p2), .val (.int p3), .val (.int (0 : Int32)), .val (.ref a2), .unset, .unset, .unset] [(.ref a3)]))
    refine G.astore H4 hx 66 #[.val (.int p0), .val (.int p1), .val (.int p2), .val (.int p3), .val (.int (0 : Int32)), .val (.ref a2), .val (.ref a3), .unset, .unset] (hb hby at_64) rfl rfl rfl ?_
    refine G.aload H4 hx 68 (hb hby at_66) rfl rfl rfl ?_
    refine Wk.callS W4 hx hoZ (y := (⟨"com/example/nuntius/nuntius/http/ParameterValue", "of", "(Ljava/lang/String;)Lcom/example/nuntius/nuntius/http/ParameterValue;"⟩ : MethodName)) (wd hw 22 rfl) (wd hw 23 rfl) (wd hw 24 rfl) (wd hw 25 rfl) (by decide) (Wd := 0) (CN.back (rmNum l Z a0 hw kv a3 h4 W4.old hNB hkv) W4.warm (wd hw 25 rfl) (wd hw 24 rfl) (by decide) (by decide)) (by rw [hml]; rfl) [(.ref a3)] [] (lenOf pd17 rfl) rfl rfl (Nat.le_of_eq rfl) 71 (hb hby at_68) rfl (by decide) (by decide) (fun _ q => nomatch q) ?_
    intro v5 T5 h5 W5 K5 Ch5 Q5
    have H5 := W5.here; have z5 := K5.1
    obtain ⟨a5, rfl, g5, X5, F5k, F5t⟩ := Q5; have l5 := ltN X5.lt
    show Goes p e below (PostW s Z consts_1 h0 [] (Q0 Z cz fm kv p0 p1 p2 p3 h0) room_1.cells room_1.slots) (T5.setTop (mkF m 71 #[.val (.int p0), .val (.int p1), .val (.int p2), .val (.int p3), .val (.int (0 : Int32)), .val (.ref a2), .val (.ref a3), .unset, .unset] [(.ref a5)]))
    refine G.astore H5 hx 73 #[.val (.int p0), .val (.int p1), .val (.int p2), .val (.int p3), .val (.int (0 : Int32)), .val (.ref a2), .val (.ref a3), .val (.ref a5), .unset] (hb hby at_71) rfl rfl rfl ?_
    refine G.aload H5 hx 75 (hb hby at_73) rfl rfl rfl ?_
    refine Wk.virtual W5 hx hoZ (y := (⟨"com/example/nuntius/nuntius/http/ParameterValue", "kind", "()Lcom/example/nuntius/nuntius/http/ParameterValue$Kind;"⟩ : MethodName)) (z := (⟨"com/example/nuntius/nuntius/http/ParameterValue", "kind", "()Lcom/example/nuntius/nuntius/http/ParameterValue$Kind;"⟩ : MethodName)) (wd hw 44 rfl) (wd hw 45 rfl) (wd hw 47 rfl) (wd hw 46 rfl) (W5.nf (wd hw 47 rfl)) (by decide) (Wd := 0) (CN.back (rmKd l Z a0 hw a5 kv h5 W5.old F5k hkv) W5.warm (wd hw 48 rfl) (wd hw 24 rfl) (by decide) (by decide)) X5 (by rw [hml]; rfl) [] [] (lenOf pd18 rfl) rfl rfl (Nat.le_of_eq rfl) 78 (hb hby at_75) rfl (by decide) (by decide) (fun _ q => nomatch q) ?_
    intro v6 T6 h6 W6 K6 Ch6 Q6
    have H6 := W6.here; have z6 := K6.1
    obtain ⟨rfl, eh6⟩ := Q6
    show Goes p e below (PostW s Z consts_1 h0 [] (Q0 Z cz fm kv p0 p1 p2 p3 h0) room_1.cells room_1.slots) (T6.setTop (mkF m 78 #[.val (.int p0), .val (.int p1), .val (.int p2), .val (.int p3), .val (.int (0 : Int32)), .val (.ref a2), .val (.ref a3), .val (.ref a5), .unset] [kv]))
    refine Wk.getS W6 hx hoZ (wd hw 49 rfl) Via.refl (hNB.ext W6.old) 81 (hb hby at_78) rfl ?_
    intro T7 W7; have H7 := W7.here
    refine G.acmpY H7 hx 86 (hb hby at_81) hkv hkv (by (simp [XT.acmp] /- true -/)) (by decide) rfl ?_
    refine G.aload H7 hx 88 (hb hby at_86) rfl rfl rfl ?_
    refine Wk.virtual W7 hx hoZ (y := (⟨"com/example/nuntius/nuntius/http/ParameterValue", "text", "()Ljava/lang/String;"⟩ : MethodName)) (z := (⟨"com/example/nuntius/nuntius/http/ParameterValue", "text", "()Ljava/lang/String;"⟩ : MethodName)) (wd hw 50 rfl) (wd hw 51 rfl) (wd hw 53 rfl) (wd hw 52 rfl) (W7.nf (wd hw 53 rfl)) (by decide) (Wd := 0) (CN.back (rmTx l Z a0 hw a5 (.ref a3) h6 W7.old (F5t.keep K6 nin0) rfl) W7.warm (wd hw 54 rfl) (wd hw 24 rfl) (by decide) (by decide)) (X5.keep K6) (by rw [hml]; rfl) [] [] (lenOf pd19 rfl) rfl rfl (Nat.le_of_eq rfl) 91 (hb hby at_88) rfl (by decide) (by decide) (fun _ q => nomatch q) ?_
    intro v8 T8 h8 W8 K8 Ch8 Q8
    have H8 := W8.here; have z8 := K8.1
    obtain ⟨rfl, eh8⟩ := Q8
    show Goes p e below (PostW s Z consts_1 h0 [] (Q0 Z cz fm kv p0 p1 p2 p3 h0) room_1.cells room_1.slots) (T8.setTop (mkF m 91 #[.val (.int p0), .val (.int p1), .val (.int p2), .val (.int p3), .val (.int (0 : Int32)), .val (.ref a2), .val (.ref a3), .val (.ref a5), .unset] [(.ref a3)]))
    refine G.astore H8 hx 93 #[.val (.int p0), .val (.int p1), .val (.int p2), .val (.int p3), .val (.int (0 : Int32)), .val (.ref a2), .val (.ref a3), .val (.ref a5), .val (.ref a3)] (hb hby at_91) rfl rfl rfl ?_
    refine G.aload H8 hx 95 (hb hby at_93) rfl rfl rfl ?_
    refine G.ifnonnullY H8 hx 100 (hb hby at_95) (by decide) rfl ?_
    refine G.aload H8 hx 102 (hb hby at_100) rfl rfl rfl ?_
    refine Wk.virtual W8 hx hoZ (y := (⟨"java/lang/String", "length", "()I"⟩ : MethodName)) (z := (⟨"java/lang/String", "length", "()I"⟩ : MethodName)) (wd hw 55 rfl) (wd hw 56 rfl) (wd hw 58 rfl) (wd hw 57 rfl) (W8.nf (wd hw 58 rfl)) (by decide) (Wd := 0) (lenS W8.warm (wsLen hw) (wd hw 2 rfl) W8.old (((Sv4.keepX K5 ala0).keepX K6 ala0).keepX K8 ala0) hCS hcz (by decide) (by decide)) (((Sv4.exa.keep K5).keep K6).keep K8) (by rw [hml]; rfl) [] [] (lenOf pd20 rfl) rfl rfl (Nat.le_of_eq rfl) 105 (hb hby at_102) rfl (by decide) (by decide) (fun _ q => nomatch q) ?_
    intro v9 T9 h9 W9 K9 Ch9 Q9
    have H9 := W9.here; have z9 := K9.1
    obtain ⟨rfl, eh9⟩ := Q9
    show Goes p e below (PostW s Z consts_1 h0 [] (Q0 Z cz fm kv p0 p1 p2 p3 h0) room_1.cells room_1.slots) (T9.setTop (mkF m 105 #[.val (.int p0), .val (.int p1), .val (.int p2), .val (.int p3), .val (.int (0 : Int32)), .val (.ref a2), .val (.ref a3), .val (.ref a5), .val (.ref a3)] [(.int (Int32.ofNat ([] : List Int32).length))]))
    rw [show Int32.ofNat ([] : List Int32).length = (0 : Int32) from rfl]
    show Goes p e below (PostW s Z consts_1 h0 [] (Q0 Z cz fm kv p0 p1 p2 p3 h0) room_1.cells room_1.slots) (T9.setTop (mkF m 105 #[.val (.int p0), .val (.int p1), .val (.int p2), .val (.int p3), .val (.int (0 : Int32)), .val (.ref a2), .val (.ref a3), .val (.ref a5), .val (.ref a3)] [(.int (0 : Int32))]))
    refine G.iload H9 hx 107 (hb hby at_105) rfl rfl ?_
    refine G.icmpY H9 hx 112 (hb hby at_107) (teq (by decide)).1 (by decide) rfl ?_
    refine G.iload H9 hx 114 (hb hby at_112) rfl rfl ?_
    refine G.ifY H9 hx 132 (hb hby at_114) (zng (by decide)).2 (by decide) rfl ?_
    refine G.iload H9 hx 134 (hb hby at_132) rfl rfl ?_
    refine G.iconst H9 hx 135 (1 : Int32) (hb hby at_134) rfl rfl ?_
    refine G.icmpY H9 hx 153 (hb hby at_135) (flt (by decide)).2.2.2 (by decide) rfl ?_
    refine G.iload H9 hx 155 (hb hby at_153) rfl rfl ?_
    refine G.iconst H9 hx 156 (2 : Int32) (hb hby at_155) rfl rfl ?_
    refine G.icmpY H9 hx 174 (hb hby at_156) (flt (by decide)).2.2.2 (by decide) rfl ?_
    refine G.iconst H9 hx 175 (1 : Int32) (hb hby at_174) rfl rfl ?_
    exact Wk.retNW W9 hx hEL (1 : Int32) (t := .boolean) rfl (by simp) hret hlk (hb hby at_175) (by decide) (by decide) rfl
  ·
    refine G.iload H0 hx 7 (hb hby at_5) rfl rfl ?_
    refine Wk.newP W0 hx (wd hw 0 rfl) 9 (hb hby at_7) (by decide) 1 (by decide) rfl (by decide) (by decide) (by decide) ?_
    intro T10 h10 a10 k10 W10 E10 g10 V10 S10
    have H10 := W10.here; have z10 := E10.1; have gu10 := Nat.le_of_eq g10; have gt10 := Nat.le_of_eq g10.symm; have l10 := ltN V10.lt
    have V10 : Arv Z h10 a10 k10 .char (1 : Int32) [(.int (0 : Int32))] (.int (0 : Int32)) := V10
    refine G.astore H10 hx 11 #[.val (.int p0), .val (.int p1), .val (.int p2), .val (.int p3), .val (.int (1 : Int32)), .val (.ref a10), .unset, .unset, .unset] (hb hby at_9) rfl rfl rfl ?_
    refine G.iload H10 hx 13 (hb hby at_11) rfl rfl ?_
    refine G.ifN H10 hx 16 (hb hby at_13) (zgt (by decide)).2 rfl ?_
    refine G.aload H10 hx 18 (hb hby at_16) rfl rfl rfl ?_
    refine G.iconst H10 hx 19 (0 : Int32) (hb hby at_18) rfl rfl ?_
    refine G.iloadN H10 hx 20 (hb hby at_19) rfl rfl ?_
    refine Wk.ldcI W10 hx hoZ (wd hw 66 rfl) 22 (hb hby at_20) rfl ?_
    refine G.iand H10 hx 23 (hb hby at_22) rfl ?_
    refine G.i2c H10 hx 24 (hb hby at_23) rfl ?_
    refine Wk.castore W10 hx V10 (Or.inr (by omega)) (OwnKit.i2c (p1 &&& (65535 : Int32))) (nar_c16 (i2c_c16 _)) 0 rfl ⟨by decide, by decide⟩ (Nat.le_of_ble_eq_true rfl) 25 (hb hby at_24) rfl ?_
    intro T11 h11 W11 K11 Ch11 V11; have H11 := W11.here; have z11 := K11.1
    have V11 : Arv Z h11 a10 k10 .char (1 : Int32) [(.int (OwnKit.i2c (p1 &&& (65535 : Int32))))] (.int (0 : Int32)) := V11
    refine G.iload H11 hx 27 (hb hby at_25) rfl rfl ?_
    refine G.iconst H11 hx 28 (1 : Int32) (hb hby at_27) rfl rfl ?_
    refine G.icmpY H11 hx 40 (hb hby at_28) (flt (by decide)).2.2.2 (by decide) rfl ?_
    refine G.iload H11 hx 42 (hb hby at_40) rfl rfl ?_
    refine G.iconst H11 hx 43 (2 : Int32) (hb hby at_42) rfl rfl ?_
    refine G.icmpY H11 hx 55 (hb hby at_43) (flt (by decide)).2.2.2 (by decide) rfl ?_
    by_cases al : (¬ (255 : Int32) < (OwnKit.i2c (p1 &&& (65535 : Int32))))
    ·
      refine Wk.newO W11 hx hoZ (wd hw 1 rfl) (wd hw 2 rfl) (wd hw 3 rfl) 58 (hb hby at_55) rfl (by decide) (by decide) ?_
      intro T12 h12 a12 W12 E12 g12 A12 D12 S12
      have H12 := W12.here; have z12 := E12.1; have gu12 := Nat.le_of_eq g12; have gt12 := Nat.le_of_eq g12.symm; have l12 := ltN A12.lt
      refine G.dup H12 hx 59 (hb hby at_58) rfl rfl ?_
      refine G.aload H12 hx 61 (hb hby at_59) rfl rfl rfl ?_
      refine Wk.special W12 hx hoZ (y := (⟨"java/lang/String", "<init>", "([C)V"⟩ : MethodName)) rfl (wd hw 4 rfl) (wd hw 5 rfl) (wd hw 6 rfl) (by decide) (Wd := 1) (newS W12.warm (wsNew hw) (wd hw 2 rfl) W12.old (by omega) A12 (D12 (Or.inr (wd hw 16 rfl)) (ty := (.array .byte)) (by decide)) (D12 (Or.inr (wd hw 17 rfl)) (ty := .byte) (by decide)) (cs := [(OwnKit.i2c (p1 &&& (65535 : Int32)))]) (V11.ext E12) hCS hcz 1 rfl rfl (by decide) (by decide) (ala ⟨(i2c_c16 _).1, al⟩ (ala0)) (by decide) (by decide)) a12 (by rw [hml]; rfl) [(.ref a10)] [(.ref a12)] (lenOf pd16 rfl) rfl rfl (Nat.le_of_eq rfl) 64 (hb hby at_61) rfl (by decide) (by decide) (hws1 (Or.inr (by omega)) S12) ?_
      intro v13 T13 h13 W13 K13 Ch13 Q13
      have H13 := W13.here; have z13 := K13.1
      obtain ⟨rfl, Sv13⟩ := Q13
      show Goes p e below (PostW s Z consts_1 h0 [] (Q0 Z cz fm kv p0 p1 p2 p3 h0) room_1.cells room_1.slots) (T13.setTop (mkF m 64 #[.val (.int p0), .val (.int p1), .val (.int p2), .val (.int p3), .val (.int (1 : Int32)), .val (.ref a10), .unset, .unset, .unset] [(.ref a12)]))
      refine G.astore H13 hx 66 #[.val (.int p0), .val (.int p1), .val (.int p2), .val (.int p3), .val (.int (1 : Int32)), .val (.ref a10), .val (.ref a12), .unset, .unset] (hb hby at_64) rfl rfl rfl ?_
      refine G.aload H13 hx 68 (hb hby at_66) rfl rfl rfl ?_
      refine Wk.callS W13 hx hoZ (y := (⟨"com/example/nuntius/nuntius/http/ParameterValue", "of", "(Ljava/lang/String;)Lcom/example/nuntius/nuntius/http/ParameterValue;"⟩ : MethodName)) (wd hw 22 rfl) (wd hw 23 rfl) (wd hw 24 rfl) (wd hw 25 rfl) (by decide) (Wd := 0) (CN.back (rmNum l Z a0 hw kv a12 h13 W13.old hNB hkv) W13.warm (wd hw 25 rfl) (wd hw 24 rfl) (by decide) (by decide)) (by rw [hml]; rfl) [(.ref a12)] [] (lenOf pd17 rfl) rfl rfl (Nat.le_of_eq rfl) 71 (hb hby at_68) rfl (by decide) (by decide) (fun _ q => nomatch q) ?_
      intro v14 T14 h14 W14 K14 Ch14 Q14
      have H14 := W14.here; have z14 := K14.1
      obtain ⟨a14, rfl, g14, X14, F14k, F14t⟩ := Q14; have l14 := ltN X14.lt
      show Goes p e below (PostW s Z consts_1 h0 [] (Q0 Z cz fm kv p0 p1 p2 p3 h0) room_1.cells room_1.slots) (T14.setTop (mkF m 71 #[.val (.int p0), .val (.int p1), .val (.int p2), .val (.int p3), .val (.int (1 : Int32)), .val (.ref a10), .val (.ref a12), .unset, .unset] [(.ref a14)]))
      refine G.astore H14 hx 73 #[.val (.int p0), .val (.int p1), .val (.int p2), .val (.int p3), .val (.int (1 : Int32)), .val (.ref a10), .val (.ref a12), .val (.ref a14), .unset] (hb hby at_71) rfl rfl rfl ?_
      refine G.aload H14 hx 75 (hb hby at_73) rfl rfl rfl ?_
      refine Wk.virtual W14 hx hoZ (y := (⟨"com/example/nuntius/nuntius/http/ParameterValue", "kind", "()Lcom/example/nuntius/nuntius/http/ParameterValue$Kind;"⟩ : MethodName)) (z := (⟨"com/example/nuntius/nuntius/http/ParameterValue", "kind", "()Lcom/example/nuntius/nuntius/http/ParameterValue$Kind;"⟩ : MethodName)) (wd hw 44 rfl) (wd hw 45 rfl) (wd hw 47 rfl) (wd hw 46 rfl) (W14.nf (wd hw 47 rfl)) (by decide) (Wd := 0) (CN.back (rmKd l Z a0 hw a14 kv h14 W14.old F14k hkv) W14.warm (wd hw 48 rfl) (wd hw 24 rfl) (by decide) (by decide)) X14 (by rw [hml]; rfl) [] [] (lenOf pd18 rfl) rfl rfl (Nat.le_of_eq rfl) 78 (hb hby at_75) rfl (by decide) (by decide) (fun _ q => nomatch q) ?_
      intro v15 T15 h15 W15 K15 Ch15 Q15
      have H15 := W15.here; have z15 := K15.1
      obtain ⟨rfl, eh15⟩ := Q15
      show Goes p e below (PostW s Z consts_1 h0 [] (Q0 Z cz fm kv p0 p1 p2 p3 h0) room_1.cells room_1.slots) (T15.setTop (mkF m 78 #[.val (.int p0), .val (.int p1), .val (.int p2), .val (.int p3), .val (.int (1 : Int32)), .val (.ref a10), .val (.ref a12), .val (.ref a14), .unset] [kv]))
      refine Wk.getS W15 hx hoZ (wd hw 49 rfl) Via.refl (hNB.ext W15.old) 81 (hb hby at_78) rfl ?_
      intro T16 W16; have H16 := W16.here
      refine G.acmpY H16 hx 86 (hb hby at_81) hkv hkv (by (simp [XT.acmp] /- true -/)) (by decide) rfl ?_
      refine G.aload H16 hx 88 (hb hby at_86) rfl rfl rfl ?_
      refine Wk.virtual W16 hx hoZ (y := (⟨"com/example/nuntius/nuntius/http/ParameterValue", "text", "()Ljava/lang/String;"⟩ : MethodName)) (z := (⟨"com/example/nuntius/nuntius/http/ParameterValue", "text", "()Ljava/lang/String;"⟩ : MethodName)) (wd hw 50 rfl) (wd hw 51 rfl) (wd hw 53 rfl) (wd hw 52 rfl) (W16.nf (wd hw 53 rfl)) (by decide) (Wd := 0) (CN.back (rmTx l Z a0 hw a14 (.ref a12) h15 W16.old (F14t.keep K15 nin0) rfl) W16.warm (wd hw 54 rfl) (wd hw 24 rfl) (by decide) (by decide)) (X14.keep K15) (by rw [hml]; rfl) [] [] (lenOf pd19 rfl) rfl rfl (Nat.le_of_eq rfl) 91 (hb hby at_88) rfl (by decide) (by decide) (fun _ q => nomatch q) ?_
      intro v17 T17 h17 W17 K17 Ch17 Q17
      have H17 := W17.here; have z17 := K17.1
      obtain ⟨rfl, eh17⟩ := Q17
      show Goes p e below (PostW s Z consts_1 h0 [] (Q0 Z cz fm kv p0 p1 p2 p3 h0) room_1.cells room_1.slots) (T17.setTop (mkF m 91 #[.val (.int p0), .val (.int p1), .val (.int p2), .val (.int p3), .val (.int (1 : Int32)), .val (.ref a10), .val (.ref a12), .val (.ref a14), .unset] [(.ref a12)]))
      refine G.astore H17 hx 93 #[.val (.int p0), .val (.int p1), .val (.int p2), .val (.int p3), .val (.int (1 : Int32)), .val (.ref a10), .val (.ref a12), .val (.ref a14), .val (.ref a12)] (hb hby at_91) rfl rfl rfl ?_
      refine G.aload H17 hx 95 (hb hby at_93) rfl rfl rfl ?_
      refine G.ifnonnullY H17 hx 100 (hb hby at_95) (by decide) rfl ?_
      refine G.aload H17 hx 102 (hb hby at_100) rfl rfl rfl ?_
      refine Wk.virtual W17 hx hoZ (y := (⟨"java/lang/String", "length", "()I"⟩ : MethodName)) (z := (⟨"java/lang/String", "length", "()I"⟩ : MethodName)) (wd hw 55 rfl) (wd hw 56 rfl) (wd hw 58 rfl) (wd hw 57 rfl) (W17.nf (wd hw 58 rfl)) (by decide) (Wd := 0) (lenS W17.warm (wsLen hw) (wd hw 2 rfl) W17.old (((Sv13.keepX K14 ala0).keepX K15 ala0).keepX K17 ala0) hCS hcz (by decide) (by decide)) (((Sv13.exa.keep K14).keep K15).keep K17) (by rw [hml]; rfl) [] [] (lenOf pd20 rfl) rfl rfl (Nat.le_of_eq rfl) 105 (hb hby at_102) rfl (by decide) (by decide) (fun _ q => nomatch q) ?_
      intro v18 T18 h18 W18 K18 Ch18 Q18
      have H18 := W18.here; have z18 := K18.1
      obtain ⟨rfl, eh18⟩ := Q18
      show Goes p e below (PostW s Z consts_1 h0 [] (Q0 Z cz fm kv p0 p1 p2 p3 h0) room_1.cells room_1.slots) (T18.setTop (mkF m 105 #[.val (.int p0), .val (.int p1), .val (.int p2), .val (.int p3), .val (.int (1 : Int32)), .val (.ref a10), .val (.ref a12), .val (.ref a14), .val (.ref a12)] [(.int (Int32.ofNat ([(OwnKit.i2c (p1 &&& (65535 : Int32)))] : List Int32).length))]))
      rw [show Int32.ofNat ([(OwnKit.i2c (p1 &&& (65535 : Int32)))] : List Int32).length = (1 : Int32) from rfl]
      show Goes p e below (PostW s Z consts_1 h0 [] (Q0 Z cz fm kv p0 p1 p2 p3 h0) room_1.cells room_1.slots) (T18.setTop (mkF m 105 #[.val (.int p0), .val (.int p1), .val (.int p2), .val (.int p3), .val (.int (1 : Int32)), .val (.ref a10), .val (.ref a12), .val (.ref a14), .val (.ref a12)] [(.int (1 : Int32))]))
      refine G.iload H18 hx 107 (hb hby at_105) rfl rfl ?_
      refine G.icmpY H18 hx 112 (hb hby at_107) (teq (by decide)).1 (by decide) rfl ?_
      refine G.iload H18 hx 114 (hb hby at_112) rfl rfl ?_
      refine G.ifN H18 hx 117 (hb hby at_114) (zgt (by decide)).2 rfl ?_
      refine G.aload H18 hx 119 (hb hby at_117) rfl rfl rfl ?_
      refine G.iconst H18 hx 120 (0 : Int32) (hb hby at_119) rfl rfl ?_
      refine Wk.virtual W18 hx hoZ (y := (⟨"java/lang/String", "charAt", "(I)C"⟩ : MethodName)) (z := (⟨"java/lang/String", "charAt", "(I)C"⟩ : MethodName)) (wd hw 77 rfl) (wd hw 78 rfl) (wd hw 80 rfl) (wd hw 79 rfl) (W18.nf (wd hw 80 rfl)) (by decide) (Wd := 0) (chS W18.warm (wsCh hw) (wd hw 2 rfl) W18.old ((((Sv13.keepX K14 ala0).keepX K15 ala0).keepX K17 ala0).keepX K18 ala0) (ala ⟨(i2c_c16 _).1, al⟩ (ala0)) hCS hcz hFM hfm 0 (Nat.le_of_ble_eq_true rfl) rfl (by decide) (by decide)) ((((Sv13.exa.keep K14).keep K15).keep K17).keep K18) (by rw [hml]; rfl) [(.int (0 : Int32))] [] (lenOf pd21 rfl) rfl rfl (Nat.le_of_eq rfl) 123 (hb hby at_120) rfl (by decide) (by decide) (fun _ q => nomatch q) ?_
      intro v19 T19 h19 W19 K19 Ch19 Q19
      have H19 := W19.here; have z19 := K19.1
      obtain ⟨rfl, eh19⟩ := Q19
      show Goes p e below (PostW s Z consts_1 h0 [] (Q0 Z cz fm kv p0 p1 p2 p3 h0) room_1.cells room_1.slots) (T19.setTop (mkF m 123 #[.val (.int p0), .val (.int p1), .val (.int p2), .val (.int p3), .val (.int (1 : Int32)), .val (.ref a10), .val (.ref a12), .val (.ref a14), .val (.ref a12)] [(.int (([(OwnKit.i2c (p1 &&& (65535 : Int32)))] : List Int32).getD 0 0))]))
      rw [show ([(OwnKit.i2c (p1 &&& (65535 : Int32)))] : List Int32).getD 0 0 = (OwnKit.i2c (p1 &&& (65535 : Int32))) from rfl]
      show Goes p e below (PostW s Z consts_1 h0 [] (Q0 Z cz fm kv p0 p1 p2 p3 h0) room_1.cells room_1.slots) (T19.setTop (mkF m 123 #[.val (.int p0), .val (.int p1), .val (.int p2), .val (.int p3), .val (.int (1 : Int32)), .val (.ref a10), .val (.ref a12), .val (.ref a14), .val (.ref a12)] [(.int (OwnKit.i2c (p1 &&& (65535 : Int32))))]))
      refine G.aload H19 hx 125 (hb hby at_123) rfl rfl rfl ?_
      refine G.iconst H19 hx 126 (0 : Int32) (hb hby at_125) rfl rfl ?_
      refine Wk.caload W19 hx (((((((V11.ext E12).keep K13 (ninS (neA (by omega)) nin0)).keep K14 nin0).keep K15 nin0).keep K17 nin0).keep K18 nin0).keep K19 nin0) ⟨by decide, by decide⟩ (.int (OwnKit.i2c (p1 &&& (65535 : Int32)))) rfl 127 (hb hby at_126) rfl ?_
      refine G.icmpY H19 hx 132 (hb hby at_127) (teq rfl).1 (by decide) rfl ?_
      refine G.iload H19 hx 134 (hb hby at_132) rfl rfl ?_
      refine G.iconst H19 hx 135 (1 : Int32) (hb hby at_134) rfl rfl ?_
      refine G.icmpY H19 hx 153 (hb hby at_135) (flt (by decide)).2.2.2 (by decide) rfl ?_
      refine G.iload H19 hx 155 (hb hby at_153) rfl rfl ?_
      refine G.iconst H19 hx 156 (2 : Int32) (hb hby at_155) rfl rfl ?_
      refine G.icmpY H19 hx 174 (hb hby at_156) (flt (by decide)).2.2.2 (by decide) rfl ?_
      refine G.iconst H19 hx 175 (1 : Int32) (hb hby at_174) rfl rfl ?_
      exact Wk.retNW W19 hx hEL (1 : Int32) (t := .boolean) rfl (by simp) hret hlk (hb hby at_175) (by decide) (by decide) rfl
    ·
      refine Wk.newO W11 hx hoZ (wd hw 1 rfl) (wd hw 2 rfl) (wd hw 3 rfl) 58 (hb hby at_55) rfl (by decide) (by decide) ?_
      intro T20 h20 a20 W20 E20 g20 A20 D20 S20
      have H20 := W20.here; have z20 := E20.1; have gu20 := Nat.le_of_eq g20; have gt20 := Nat.le_of_eq g20.symm; have l20 := ltN A20.lt
      refine G.dup H20 hx 59 (hb hby at_58) rfl rfl ?_
      refine G.aload H20 hx 61 (hb hby at_59) rfl rfl rfl ?_
      refine Wk.special W20 hx hoZ (y := (⟨"java/lang/String", "<init>", "([C)V"⟩ : MethodName)) rfl (wd hw 4 rfl) (wd hw 5 rfl) (wd hw 6 rfl) (by decide) (Wd := 1) (CN.back (rmUN1_1 l Z a0 hw cz a20 a10 k10 (OwnKit.i2c (p1 &&& (65535 : Int32))) h20 W20.old hCS hcz hAD hHI hLO (i2c_c16 _) al (V11.ext E20) (by omega) A20 (D20 (Or.inr (wd hw 16 rfl)) (ty := (.array .byte)) (by decide)) (D20 (Or.inr (wd hw 17 rfl)) (ty := .byte) (by decide))) W20.warm (wd hw 6 rfl) (wd hw 3 rfl) (by decide) (by decide)) a20 (by rw [hml]; rfl) [(.ref a10)] [(.ref a20)] (lenOf pd16 rfl) rfl rfl (Nat.le_of_eq rfl) 64 (hb hby at_61) rfl (by decide) (by decide) (hws1 (Or.inr (by omega)) S20) ?_
      intro v21 T21 h21 W21 K21 Ch21 Q21
      have H21 := W21.here; have z21 := K21.1
      obtain ⟨rfl, X21, F21c, b21, k21, F21v, V21⟩ := Q21; have l21 := ltN V21.lt
      show Goes p e below (PostW s Z consts_1 h0 [] (Q0 Z cz fm kv p0 p1 p2 p3 h0) room_1.cells room_1.slots) (T21.setTop (mkF m 64 #[.val (.int p0), .val (.int p1), .val (.int p2), .val (.int p3), .val (.int (1 : Int32)), .val (.ref a10), .unset, .unset, .unset] [(.ref a20)]))
      refine G.astore H21 hx 66 #[.val (.int p0), .val (.int p1), .val (.int p2), .val (.int p3), .val (.int (1 : Int32)), .val (.ref a10), .val (.ref a20), .unset, .unset] (hb hby at_64) rfl rfl rfl ?_
      refine G.aload H21 hx 68 (hb hby at_66) rfl rfl rfl ?_
      refine Wk.callS W21 hx hoZ (y := (⟨"com/example/nuntius/nuntius/http/ParameterValue", "of", "(Ljava/lang/String;)Lcom/example/nuntius/nuntius/http/ParameterValue;"⟩ : MethodName)) (wd hw 22 rfl) (wd hw 23 rfl) (wd hw 24 rfl) (wd hw 25 rfl) (by decide) (Wd := 0) (CN.back (rmNum l Z a0 hw kv a20 h21 W21.old hNB hkv) W21.warm (wd hw 25 rfl) (wd hw 24 rfl) (by decide) (by decide)) (by rw [hml]; rfl) [(.ref a20)] [] (lenOf pd17 rfl) rfl rfl (Nat.le_of_eq rfl) 71 (hb hby at_68) rfl (by decide) (by decide) (fun _ q => nomatch q) ?_
      intro v22 T22 h22 W22 K22 Ch22 Q22
      have H22 := W22.here; have z22 := K22.1
      obtain ⟨a22, rfl, g22, X22, F22k, F22t⟩ := Q22; have l22 := ltN X22.lt
      show Goes p e below (PostW s Z consts_1 h0 [] (Q0 Z cz fm kv p0 p1 p2 p3 h0) room_1.cells room_1.slots) (T22.setTop (mkF m 71 #[.val (.int p0), .val (.int p1), .val (.int p2), .val (.int p3), .val (.int (1 : Int32)), .val (.ref a10), .val (.ref a20), .unset, .unset] [(.ref a22)]))
      refine G.astore H22 hx 73 #[.val (.int p0), .val (.int p1), .val (.int p2), .val (.int p3), .val (.int (1 : Int32)), .val (.ref a10), .val (.ref a20), .val (.ref a22), .unset] (hb hby at_71) rfl rfl rfl ?_
      refine G.aload H22 hx 75 (hb hby at_73) rfl rfl rfl ?_
      refine Wk.virtual W22 hx hoZ (y := (⟨"com/example/nuntius/nuntius/http/ParameterValue", "kind", "()Lcom/example/nuntius/nuntius/http/ParameterValue$Kind;"⟩ : MethodName)) (z := (⟨"com/example/nuntius/nuntius/http/ParameterValue", "kind", "()Lcom/example/nuntius/nuntius/http/ParameterValue$Kind;"⟩ : MethodName)) (wd hw 44 rfl) (wd hw 45 rfl) (wd hw 47 rfl) (wd hw 46 rfl) (W22.nf (wd hw 47 rfl)) (by decide) (Wd := 0) (CN.back (rmKd l Z a0 hw a22 kv h22 W22.old F22k hkv) W22.warm (wd hw 48 rfl) (wd hw 24 rfl) (by decide) (by decide)) X22 (by rw [hml]; rfl) [] [] (lenOf pd18 rfl) rfl rfl (Nat.le_of_eq rfl) 78 (hb hby at_75) rfl (by decide) (by decide) (fun _ q => nomatch q) ?_
      intro v23 T23 h23 W23 K23 Ch23 Q23
      have H23 := W23.here; have z23 := K23.1
      obtain ⟨rfl, eh23⟩ := Q23
      show Goes p e below (PostW s Z consts_1 h0 [] (Q0 Z cz fm kv p0 p1 p2 p3 h0) room_1.cells room_1.slots) (T23.setTop (mkF m 78 #[.val (.int p0), .val (.int p1), .val (.int p2), .val (.int p3), .val (.int (1 : Int32)), .val (.ref a10), .val (.ref a20), .val (.ref a22), .unset] [kv]))
      refine Wk.getS W23 hx hoZ (wd hw 49 rfl) Via.refl (hNB.ext W23.old) 81 (hb hby at_78) rfl ?_
      intro T24 W24; have H24 := W24.here
      refine G.acmpY H24 hx 86 (hb hby at_81) hkv hkv (by (simp [XT.acmp] /- true -/)) (by decide) rfl ?_
      refine G.aload H24 hx 88 (hb hby at_86) rfl rfl rfl ?_
      refine Wk.virtual W24 hx hoZ (y := (⟨"com/example/nuntius/nuntius/http/ParameterValue", "text", "()Ljava/lang/String;"⟩ : MethodName)) (z := (⟨"com/example/nuntius/nuntius/http/ParameterValue", "text", "()Ljava/lang/String;"⟩ : MethodName)) (wd hw 50 rfl) (wd hw 51 rfl) (wd hw 53 rfl) (wd hw 52 rfl) (W24.nf (wd hw 53 rfl)) (by decide) (Wd := 0) (CN.back (rmTx l Z a0 hw a22 (.ref a20) h23 W24.old (F22t.keep K23 nin0) rfl) W24.warm (wd hw 54 rfl) (wd hw 24 rfl) (by decide) (by decide)) (X22.keep K23) (by rw [hml]; rfl) [] [] (lenOf pd19 rfl) rfl rfl (Nat.le_of_eq rfl) 91 (hb hby at_88) rfl (by decide) (by decide) (fun _ q => nomatch q) ?_
      intro v25 T25 h25 W25 K25 Ch25 Q25
      have H25 := W25.here; have z25 := K25.1
      obtain ⟨rfl, eh25⟩ := Q25
      show Goes p e below (PostW s Z consts_1 h0 [] (Q0 Z cz fm kv p0 p1 p2 p3 h0) room_1.cells room_1.slots) (T25.setTop (mkF m 91 #[.val (.int p0), .val (.int p1), .val (.int p2), .val (.int p3), .val (.int (1 : Int32)), .val (.ref a10), .val (.ref a20), .val (.ref a22), .unset] [(.ref a20)]))
      refine G.astore H25 hx 93 #[.val (.int p0), .val (.int p1), .val (.int p2), .val (.int p3), .val (.int (1 : Int32)), .val (.ref a10), .val (.ref a20), .val (.ref a22), .val (.ref a20)] (hb hby at_91) rfl rfl rfl ?_
      refine G.aload H25 hx 95 (hb hby at_93) rfl rfl rfl ?_
      refine G.ifnonnullY H25 hx 100 (hb hby at_95) (by decide) rfl ?_
      refine G.aload H25 hx 102 (hb hby at_100) rfl rfl rfl ?_
      refine Wk.virtual W25 hx hoZ (y := (⟨"java/lang/String", "length", "()I"⟩ : MethodName)) (z := (⟨"java/lang/String", "length", "()I"⟩ : MethodName)) (wd hw 55 rfl) (wd hw 56 rfl) (wd hw 58 rfl) (wd hw 57 rfl) (W25.nf (wd hw 58 rfl)) (by decide) (Wd := 0) (CN.back (rmUSl1 l Z a0 hw cz a20 b21 k21 (OwnKit.i2c (p1 &&& (65535 : Int32))) h25 W25.old hCS hcz (((X21.keep K22).keep K23).keep K25) (((F21c.keep K22 nin0).keep K23 nin0).keep K25 nin0) (((F21v.keep K22 nin0).keep K23 nin0).keep K25 nin0) (((V21.keep K22 nin0).keep K23 nin0).keep K25 nin0)) W25.warm (wd hw 59 rfl) (wd hw 3 rfl) (by decide) (by decide)) (((X21.keep K22).keep K23).keep K25) (by rw [hml]; rfl) [] [] (lenOf pd20 rfl) rfl rfl (Nat.le_of_eq rfl) 105 (hb hby at_102) rfl (by decide) (by decide) (fun _ q => nomatch q) ?_
      intro v26 T26 h26 W26 K26 Ch26 Q26
      have H26 := W26.here; have z26 := K26.1
      obtain ⟨rfl, eh26⟩ := Q26
      show Goes p e below (PostW s Z consts_1 h0 [] (Q0 Z cz fm kv p0 p1 p2 p3 h0) room_1.cells room_1.slots) (T26.setTop (mkF m 105 #[.val (.int p0), .val (.int p1), .val (.int p2), .val (.int p3), .val (.int (1 : Int32)), .val (.ref a10), .val (.ref a20), .val (.ref a22), .val (.ref a20)] [(.int (1 : Int32))]))
      refine G.iload H26 hx 107 (hb hby at_105) rfl rfl ?_
      refine G.icmpY H26 hx 112 (hb hby at_107) (teq (by decide)).1 (by decide) rfl ?_
      refine G.iload H26 hx 114 (hb hby at_112) rfl rfl ?_
      refine G.ifN H26 hx 117 (hb hby at_114) (zgt (by decide)).2 rfl ?_
      refine G.aload H26 hx 119 (hb hby at_117) rfl rfl rfl ?_
      refine G.iconst H26 hx 120 (0 : Int32) (hb hby at_119) rfl rfl ?_
      refine Wk.virtual W26 hx hoZ (y := (⟨"java/lang/String", "charAt", "(I)C"⟩ : MethodName)) (z := (⟨"java/lang/String", "charAt", "(I)C"⟩ : MethodName)) (wd hw 77 rfl) (wd hw 78 rfl) (wd hw 80 rfl) (wd hw 79 rfl) (W26.nf (wd hw 80 rfl)) (by decide) (Wd := 0) (CN.back (rmUSc1_0 l Z a0 hw cz fm a20 b21 k21 (OwnKit.i2c (p1 &&& (65535 : Int32))) h26 W26.old hAD hHI hLO (i2c_c16 _) hFM hfm hCS hcz ((((X21.keep K22).keep K23).keep K25).keep K26) ((((F21c.keep K22 nin0).keep K23 nin0).keep K25 nin0).keep K26 nin0) ((((F21v.keep K22 nin0).keep K23 nin0).keep K25 nin0).keep K26 nin0) ((((V21.keep K22 nin0).keep K23 nin0).keep K25 nin0).keep K26 nin0)) W26.warm (wd hw 81 rfl) (wd hw 3 rfl) (by decide) (by decide)) ((((X21.keep K22).keep K23).keep K25).keep K26) (by rw [hml]; rfl) [(.int (0 : Int32))] [] (lenOf pd21 rfl) rfl rfl (Nat.le_of_eq rfl) 123 (hb hby at_120) rfl (by decide) (by decide) (fun _ q => nomatch q) ?_
      intro v27 T27 h27 W27 K27 Ch27 Q27
      have H27 := W27.here; have z27 := K27.1
      obtain ⟨rfl, eh27⟩ := Q27
      show Goes p e below (PostW s Z consts_1 h0 [] (Q0 Z cz fm kv p0 p1 p2 p3 h0) room_1.cells room_1.slots) (T27.setTop (mkF m 123 #[.val (.int p0), .val (.int p1), .val (.int p2), .val (.int p3), .val (.int (1 : Int32)), .val (.ref a10), .val (.ref a20), .val (.ref a22), .val (.ref a20)] [(.int (OwnKit.i2c (p1 &&& (65535 : Int32))))]))
      refine G.aload H27 hx 125 (hb hby at_123) rfl rfl rfl ?_
      refine G.iconst H27 hx 126 (0 : Int32) (hb hby at_125) rfl rfl ?_
      refine Wk.caload W27 hx (((((((V11.ext E20).keep K21 (ninS (neA (by omega)) nin0)).keep K22 nin0).keep K23 nin0).keep K25 nin0).keep K26 nin0).keep K27 nin0) ⟨by decide, by decide⟩ (.int (OwnKit.i2c (p1 &&& (65535 : Int32)))) rfl 127 (hb hby at_126) rfl ?_
      refine G.icmpY H27 hx 132 (hb hby at_127) (teq rfl).1 (by decide) rfl ?_
      refine G.iload H27 hx 134 (hb hby at_132) rfl rfl ?_
      refine G.iconst H27 hx 135 (1 : Int32) (hb hby at_134) rfl rfl ?_
      refine G.icmpY H27 hx 153 (hb hby at_135) (flt (by decide)).2.2.2 (by decide) rfl ?_
      refine G.iload H27 hx 155 (hb hby at_153) rfl rfl ?_
      refine G.iconst H27 hx 156 (2 : Int32) (hb hby at_155) rfl rfl ?_
      refine G.icmpY H27 hx 174 (hb hby at_156) (flt (by decide)).2.2.2 (by decide) rfl ?_
      refine G.iconst H27 hx 175 (1 : Int32) (hb hby at_174) rfl rfl ?_
      exact Wk.retNW W27 hx hEL (1 : Int32) (t := .boolean) rfl (by simp) hret hlk (hb hby at_175) (by decide) (by decide) rfl
  ·
    refine G.iload H0 hx 7 (hb hby at_5) rfl rfl ?_
    refine Wk.newP W0 hx (wd hw 0 rfl) 9 (hb hby at_7) (by decide) 2 (by decide) rfl (by decide) (by decide) (by decide) ?_
    intro T28 h28 a28 k28 W28 E28 g28 V28 S28
    have H28 := W28.here; have z28 := E28.1; have gu28 := Nat.le_of_eq g28; have gt28 := Nat.le_of_eq g28.symm; have l28 := ltN V28.lt
    have V28 : Arv Z h28 a28 k28 .char (2 : Int32) [(.int (0 : Int32)), (.int (0 : Int32))] (.int (0 : Int32)) := V28
    refine G.astore H28 hx 11 #[.val (.int p0), .val (.int p1), .val (.int p2), .val (.int p3), .val (.int (2 : Int32)), .val (.ref a28), .unset, .unset, .unset] (hb hby at_9) rfl rfl rfl ?_
    refine G.iload H28 hx 13 (hb hby at_11) rfl rfl ?_
    refine G.ifN H28 hx 16 (hb hby at_13) (zgt (by decide)).2 rfl ?_
    refine G.aload H28 hx 18 (hb hby at_16) rfl rfl rfl ?_
    refine G.iconst H28 hx 19 (0 : Int32) (hb hby at_18) rfl rfl ?_
    refine G.iloadN H28 hx 20 (hb hby at_19) rfl rfl ?_
    refine Wk.ldcI W28 hx hoZ (wd hw 66 rfl) 22 (hb hby at_20) rfl ?_
    refine G.iand H28 hx 23 (hb hby at_22) rfl ?_
    refine G.i2c H28 hx 24 (hb hby at_23) rfl ?_
    refine Wk.castore W28 hx V28 (Or.inr (by omega)) (OwnKit.i2c (p1 &&& (65535 : Int32))) (nar_c16 (i2c_c16 _)) 0 rfl ⟨by decide, by decide⟩ (Nat.le_of_ble_eq_true rfl) 25 (hb hby at_24) rfl ?_
    intro T29 h29 W29 K29 Ch29 V29; have H29 := W29.here; have z29 := K29.1
    have V29 : Arv Z h29 a28 k28 .char (2 : Int32) [(.int (OwnKit.i2c (p1 &&& (65535 : Int32)))), (.int (0 : Int32))] (.int (0 : Int32)) := V29
    refine G.iload H29 hx 27 (hb hby at_25) rfl rfl ?_
    refine G.iconst H29 hx 28 (1 : Int32) (hb hby at_27) rfl rfl ?_
    refine G.icmpN H29 hx 31 (hb hby at_28) (tlt (by decide)).2.2.2 rfl ?_
    refine G.aload H29 hx 33 (hb hby at_31) rfl rfl rfl ?_
    refine G.iconst H29 hx 34 (1 : Int32) (hb hby at_33) rfl rfl ?_
    refine G.iloadN H29 hx 35 (hb hby at_34) rfl rfl ?_
    refine Wk.ldcI W29 hx hoZ (wd hw 66 rfl) 37 (hb hby at_35) rfl ?_
    refine G.iand H29 hx 38 (hb hby at_37) rfl ?_
    refine G.i2c H29 hx 39 (hb hby at_38) rfl ?_
    refine Wk.castore W29 hx V29 (Or.inr (by omega)) (OwnKit.i2c (p2 &&& (65535 : Int32))) (nar_c16 (i2c_c16 _)) 1 rfl ⟨by decide, by decide⟩ (Nat.le_of_ble_eq_true rfl) 40 (hb hby at_39) rfl ?_
    intro T30 h30 W30 K30 Ch30 V30; have H30 := W30.here; have z30 := K30.1
    have V30 : Arv Z h30 a28 k28 .char (2 : Int32) [(.int (OwnKit.i2c (p1 &&& (65535 : Int32)))), (.int (OwnKit.i2c (p2 &&& (65535 : Int32))))] (.int (0 : Int32)) := V30
    refine G.iload H30 hx 42 (hb hby at_40) rfl rfl ?_
    refine G.iconst H30 hx 43 (2 : Int32) (hb hby at_42) rfl rfl ?_
    refine G.icmpY H30 hx 55 (hb hby at_43) (flt (by decide)).2.2.2 (by decide) rfl ?_
    by_cases al : (¬ (255 : Int32) < (OwnKit.i2c (p1 &&& (65535 : Int32))) ∧ ¬ (255 : Int32) < (OwnKit.i2c (p2 &&& (65535 : Int32))))
    ·
      refine Wk.newO W30 hx hoZ (wd hw 1 rfl) (wd hw 2 rfl) (wd hw 3 rfl) 58 (hb hby at_55) rfl (by decide) (by decide) ?_
      intro T31 h31 a31 W31 E31 g31 A31 D31 S31
      have H31 := W31.here; have z31 := E31.1; have gu31 := Nat.le_of_eq g31; have gt31 := Nat.le_of_eq g31.symm; have l31 := ltN A31.lt
      refine G.dup H31 hx 59 (hb hby at_58) rfl rfl ?_
      refine G.aload H31 hx 61 (hb hby at_59) rfl rfl rfl ?_
      refine Wk.special W31 hx hoZ (y := (⟨"java/lang/String", "<init>", "([C)V"⟩ : MethodName)) rfl (wd hw 4 rfl) (wd hw 5 rfl) (wd hw 6 rfl) (by decide) (Wd := 1) (newS W31.warm (wsNew hw) (wd hw 2 rfl) W31.old (by omega) A31 (D31 (Or.inr (wd hw 16 rfl)) (ty := (.array .byte)) (by decide)) (D31 (Or.inr (wd hw 17 rfl)) (ty := .byte) (by decide)) (cs := [(OwnKit.i2c (p1 &&& (65535 : Int32))), (OwnKit.i2c (p2 &&& (65535 : Int32)))]) (V30.ext E31) hCS hcz 2 rfl rfl (by decide) (by decide) (ala ⟨(i2c_c16 _).1, al.1⟩ (ala ⟨(i2c_c16 _).1, al.2⟩ (ala0))) (by decide) (by decide)) a31 (by rw [hml]; rfl) [(.ref a28)] [(.ref a31)] (lenOf pd16 rfl) rfl rfl (Nat.le_of_eq rfl) 64 (hb hby at_61) rfl (by decide) (by decide) (hws1 (Or.inr (by omega)) S31) ?_
      intro v32 T32 h32 W32 K32 Ch32 Q32
      have H32 := W32.here; have z32 := K32.1
      obtain ⟨rfl, Sv32⟩ := Q32
      show Goes p e below (PostW s Z consts_1 h0 [] (Q0 Z cz fm kv p0 p1 p2 p3 h0) room_1.cells room_1.slots) (T32.setTop (mkF m 64 #[.val (.int p0), .val (.int p1), .val (.int p2), .val (.int p3), .val (.int (2 : Int32)), .val (.ref a28), .unset, .unset, .unset] [(.ref a31)]))
      refine G.astore H32 hx 66 #[.val (.int p0), .val (.int p1), .val (.int p2), .val (.int p3), .val (.int (2 : Int32)), .val (.ref a28), .val (.ref a31), .unset, .unset] (hb hby at_64) rfl rfl rfl ?_
      refine G.aload H32 hx 68 (hb hby at_66) rfl rfl rfl ?_
      refine Wk.callS W32 hx hoZ (y := (⟨"com/example/nuntius/nuntius/http/ParameterValue", "of", "(Ljava/lang/String;)Lcom/example/nuntius/nuntius/http/ParameterValue;"⟩ : MethodName)) (wd hw 22 rfl) (wd hw 23 rfl) (wd hw 24 rfl) (wd hw 25 rfl) (by decide) (Wd := 0) (CN.back (rmNum l Z a0 hw kv a31 h32 W32.old hNB hkv) W32.warm (wd hw 25 rfl) (wd hw 24 rfl) (by decide) (by decide)) (by rw [hml]; rfl) [(.ref a31)] [] (lenOf pd17 rfl) rfl rfl (Nat.le_of_eq rfl) 71 (hb hby at_68) rfl (by decide) (by decide) (fun _ q => nomatch q) ?_
      intro v33 T33 h33 W33 K33 Ch33 Q33
      have H33 := W33.here; have z33 := K33.1
      obtain ⟨a33, rfl, g33, X33, F33k, F33t⟩ := Q33; have l33 := ltN X33.lt
      show Goes p e below (PostW s Z consts_1 h0 [] (Q0 Z cz fm kv p0 p1 p2 p3 h0) room_1.cells room_1.slots) (T33.setTop (mkF m 71 #[.val (.int p0), .val (.int p1), .val (.int p2), .val (.int p3), .val (.int (2 : Int32)), .val (.ref a28), .val (.ref a31), .unset, .unset] [(.ref a33)]))
      refine G.astore H33 hx 73 #[.val (.int p0), .val (.int p1), .val (.int p2), .val (.int p3), .val (.int (2 : Int32)), .val (.ref a28), .val (.ref a31), .val (.ref a33), .unset] (hb hby at_71) rfl rfl rfl ?_
      refine G.aload H33 hx 75 (hb hby at_73) rfl rfl rfl ?_
      refine Wk.virtual W33 hx hoZ (y := (⟨"com/example/nuntius/nuntius/http/ParameterValue", "kind", "()Lcom/example/nuntius/nuntius/http/ParameterValue$Kind;"⟩ : MethodName)) (z := (⟨"com/example/nuntius/nuntius/http/ParameterValue", "kind", "()Lcom/example/nuntius/nuntius/http/ParameterValue$Kind;"⟩ : MethodName)) (wd hw 44 rfl) (wd hw 45 rfl) (wd hw 47 rfl) (wd hw 46 rfl) (W33.nf (wd hw 47 rfl)) (by decide) (Wd := 0) (CN.back (rmKd l Z a0 hw a33 kv h33 W33.old F33k hkv) W33.warm (wd hw 48 rfl) (wd hw 24 rfl) (by decide) (by decide)) X33 (by rw [hml]; rfl) [] [] (lenOf pd18 rfl) rfl rfl (Nat.le_of_eq rfl) 78 (hb hby at_75) rfl (by decide) (by decide) (fun _ q => nomatch q) ?_
      intro v34 T34 h34 W34 K34 Ch34 Q34
      have H34 := W34.here; have z34 := K34.1
      obtain ⟨rfl, eh34⟩ := Q34
      show Goes p e below (PostW s Z consts_1 h0 [] (Q0 Z cz fm kv p0 p1 p2 p3 h0) room_1.cells room_1.slots) (T34.setTop (mkF m 78 #[.val (.int p0), .val (.int p1), .val (.int p2), .val (.int p3), .val (.int (2 : Int32)), .val (.ref a28), .val (.ref a31), .val (.ref a33), .unset] [kv]))
      refine Wk.getS W34 hx hoZ (wd hw 49 rfl) Via.refl (hNB.ext W34.old) 81 (hb hby at_78) rfl ?_
      intro T35 W35; have H35 := W35.here
      refine G.acmpY H35 hx 86 (hb hby at_81) hkv hkv (by (simp [XT.acmp] /- true -/)) (by decide) rfl ?_
      refine G.aload H35 hx 88 (hb hby at_86) rfl rfl rfl ?_
      refine Wk.virtual W35 hx hoZ (y := (⟨"com/example/nuntius/nuntius/http/ParameterValue", "text", "()Ljava/lang/String;"⟩ : MethodName)) (z := (⟨"com/example/nuntius/nuntius/http/ParameterValue", "text", "()Ljava/lang/String;"⟩ : MethodName)) (wd hw 50 rfl) (wd hw 51 rfl) (wd hw 53 rfl) (wd hw 52 rfl) (W35.nf (wd hw 53 rfl)) (by decide) (Wd := 0) (CN.back (rmTx l Z a0 hw a33 (.ref a31) h34 W35.old (F33t.keep K34 nin0) rfl) W35.warm (wd hw 54 rfl) (wd hw 24 rfl) (by decide) (by decide)) (X33.keep K34) (by rw [hml]; rfl) [] [] (lenOf pd19 rfl) rfl rfl (Nat.le_of_eq rfl) 91 (hb hby at_88) rfl (by decide) (by decide) (fun _ q => nomatch q) ?_
      intro v36 T36 h36 W36 K36 Ch36 Q36
      have H36 := W36.here; have z36 := K36.1
      obtain ⟨rfl, eh36⟩ := Q36
      show Goes p e below (PostW s Z consts_1 h0 [] (Q0 Z cz fm kv p0 p1 p2 p3 h0) room_1.cells room_1.slots) (T36.setTop (mkF m 91 #[.val (.int p0), .val (.int p1), .val (.int p2), .val (.int p3), .val (.int (2 : Int32)), .val (.ref a28), .val (.ref a31), .val (.ref a33), .unset] [(.ref a31)]))
      refine G.astore H36 hx 93 #[.val (.int p0), .val (.int p1), .val (.int p2), .val (.int p3), .val (.int (2 : Int32)), .val (.ref a28), .val (.ref a31), .val (.ref a33), .val (.ref a31)] (hb hby at_91) rfl rfl rfl ?_
      refine G.aload H36 hx 95 (hb hby at_93) rfl rfl rfl ?_
      refine G.ifnonnullY H36 hx 100 (hb hby at_95) (by decide) rfl ?_
      refine G.aload H36 hx 102 (hb hby at_100) rfl rfl rfl ?_
      refine Wk.virtual W36 hx hoZ (y := (⟨"java/lang/String", "length", "()I"⟩ : MethodName)) (z := (⟨"java/lang/String", "length", "()I"⟩ : MethodName)) (wd hw 55 rfl) (wd hw 56 rfl) (wd hw 58 rfl) (wd hw 57 rfl) (W36.nf (wd hw 58 rfl)) (by decide) (Wd := 0) (lenS W36.warm (wsLen hw) (wd hw 2 rfl) W36.old (((Sv32.keepX K33 ala0).keepX K34 ala0).keepX K36 ala0) hCS hcz (by decide) (by decide)) (((Sv32.exa.keep K33).keep K34).keep K36) (by rw [hml]; rfl) [] [] (lenOf pd20 rfl) rfl rfl (Nat.le_of_eq rfl) 105 (hb hby at_102) rfl (by decide) (by decide) (fun _ q => nomatch q) ?_
      intro v37 T37 h37 W37 K37 Ch37 Q37
      have H37 := W37.here; have z37 := K37.1
      obtain ⟨rfl, eh37⟩ := Q37
      show Goes p e below (PostW s Z consts_1 h0 [] (Q0 Z cz fm kv p0 p1 p2 p3 h0) room_1.cells room_1.slots) (T37.setTop (mkF m 105 #[.val (.int p0), .val (.int p1), .val (.int p2), .val (.int p3), .val (.int (2 : Int32)), .val (.ref a28), .val (.ref a31), .val (.ref a33), .val (.ref a31)] [(.int (Int32.ofNat ([(OwnKit.i2c (p1 &&& (65535 : Int32))), (OwnKit.i2c (p2 &&& (65535 : Int32)))] : List Int32).length))]))
      rw [show Int32.ofNat ([(OwnKit.i2c (p1 &&& (65535 : Int32))), (OwnKit.i2c (p2 &&& (65535 : Int32)))] : List Int32).length = (2 : Int32) from rfl]
      show Goes p e below (PostW s Z consts_1 h0 [] (Q0 Z cz fm kv p0 p1 p2 p3 h0) room_1.cells room_1.slots) (T37.setTop (mkF m 105 #[.val (.int p0), .val (.int p1), .val (.int p2), .val (.int p3), .val (.int (2 : Int32)), .val (.ref a28), .val (.ref a31), .val (.ref a33), .val (.ref a31)] [(.int (2 : Int32))]))
      refine G.iload H37 hx 107 (hb hby at_105) rfl rfl ?_
      refine G.icmpY H37 hx 112 (hb hby at_107) (teq (by decide)).1 (by decide) rfl ?_
      refine G.iload H37 hx 114 (hb hby at_112) rfl rfl ?_
      refine G.ifN H37 hx 117 (hb hby at_114) (zgt (by decide)).2 rfl ?_
      refine G.aload H37 hx 119 (hb hby at_117) rfl rfl rfl ?_
      refine G.iconst H37 hx 120 (0 : Int32) (hb hby at_119) rfl rfl ?_
      refine Wk.virtual W37 hx hoZ (y := (⟨"java/lang/String", "charAt", "(I)C"⟩ : MethodName)) (z := (⟨"java/lang/String", "charAt", "(I)C"⟩ : MethodName)) (wd hw 77 rfl) (wd hw 78 rfl) (wd hw 80 rfl) (wd hw 79 rfl) (W37.nf (wd hw 80 rfl)) (by decide) (Wd := 0) (chS W37.warm (wsCh hw) (wd hw 2 rfl) W37.old ((((Sv32.keepX K33 ala0).keepX K34 ala0).keepX K36 ala0).keepX K37 ala0) (ala ⟨(i2c_c16 _).1, al.1⟩ (ala ⟨(i2c_c16 _).1, al.2⟩ (ala0))) hCS hcz hFM hfm 0 (Nat.le_of_ble_eq_true rfl) rfl (by decide) (by decide)) ((((Sv32.exa.keep K33).keep K34).keep K36).keep K37) (by rw [hml]; rfl) [(.int (0 : Int32))] [] (lenOf pd21 rfl) rfl rfl (Nat.le_of_eq rfl) 123 (hb hby at_120) rfl (by decide) (by decide) (fun _ q => nomatch q) ?_
      intro v38 T38 h38 W38 K38 Ch38 Q38
      have H38 := W38.here; have z38 := K38.1
      obtain ⟨rfl, eh38⟩ := Q38
      show Goes p e below (PostW s Z consts_1 h0 [] (Q0 Z cz fm kv p0 p1 p2 p3 h0) room_1.cells room_1.slots) (T38.setTop (mkF m 123 #[.val (.int p0), .val (.int p1), .val (.int p2), .val (.int p3), .val (.int (2 : Int32)), .val (.ref a28), .val (.ref a31), .val (.ref a33), .val (.ref a31)] [(.int (([(OwnKit.i2c (p1 &&& (65535 : Int32))), (OwnKit.i2c (p2 &&& (65535 : Int32)))] : List Int32).getD 0 0))]))
      rw [show ([(OwnKit.i2c (p1 &&& (65535 : Int32))), (OwnKit.i2c (p2 &&& (65535 : Int32)))] : List Int32).getD 0 0 = (OwnKit.i2c (p1 &&& (65535 : Int32))) from rfl]
      show Goes p e below (PostW s Z consts_1 h0 [] (Q0 Z cz fm kv p0 p1 p2 p3 h0) room_1.cells room_1.slots) (T38.setTop (mkF m 123 #[.val (.int p0), .val (.int p1), .val (.int p2), .val (.int p3), .val (.int (2 : Int32)), .val (.ref a28), .val (.ref a31), .val (.ref a33), .val (.ref a31)] [(.int (OwnKit.i2c (p1 &&& (65535 : Int32))))]))
      refine G.aload H38 hx 125 (hb hby at_123) rfl rfl rfl ?_
      refine G.iconst H38 hx 126 (0 : Int32) (hb hby at_125) rfl rfl ?_
      refine Wk.caload W38 hx (((((((V30.ext E31).keep K32 (ninS (neA (by omega)) nin0)).keep K33 nin0).keep K34 nin0).keep K36 nin0).keep K37 nin0).keep K38 nin0) ⟨by decide, by decide⟩ (.int (OwnKit.i2c (p1 &&& (65535 : Int32)))) rfl 127 (hb hby at_126) rfl ?_
      refine G.icmpY H38 hx 132 (hb hby at_127) (teq rfl).1 (by decide) rfl ?_
      refine G.iload H38 hx 134 (hb hby at_132) rfl rfl ?_
      refine G.iconst H38 hx 135 (1 : Int32) (hb hby at_134) rfl rfl ?_
      refine G.icmpN H38 hx 138 (hb hby at_135) (tlt (by decide)).2.2.2 rfl ?_
      refine G.aload H38 hx 140 (hb hby at_138) rfl rfl rfl ?_
      refine G.iconst H38 hx 141 (1 : Int32) (hb hby at_140) rfl rfl ?_
      refine Wk.virtual W38 hx hoZ (y := (⟨"java/lang/String", "charAt", "(I)C"⟩ : MethodName)) (z := (⟨"java/lang/String", "charAt", "(I)C"⟩ : MethodName)) (wd hw 77 rfl) (wd hw 78 rfl) (wd hw 80 rfl) (wd hw 79 rfl) (W38.nf (wd hw 80 rfl)) (by decide) (Wd := 0) (chS W38.warm (wsCh hw) (wd hw 2 rfl) W38.old (((((Sv32.keepX K33 ala0).keepX K34 ala0).keepX K36 ala0).keepX K37 ala0).keepX K38 ala0) (ala ⟨(i2c_c16 _).1, al.1⟩ (ala ⟨(i2c_c16 _).1, al.2⟩ (ala0))) hCS hcz hFM hfm 1 (Nat.le_of_ble_eq_true rfl) rfl (by decide) (by decide)) (((((Sv32.exa.keep K33).keep K34).keep K36).keep K37).keep K38) (by rw [hml]; rfl) [(.int (1 : Int32))] [] (lenOf pd21 rfl) rfl rfl (Nat.le_of_eq rfl) 144 (hb hby at_141) rfl (by decide) (by decide) (fun _ q => nomatch q) ?_
      intro v39 T39 h39 W39 K39 Ch39 Q39
      have H39 := W39.here; have z39 := K39.1
      obtain ⟨rfl, eh39⟩ := Q39
      show Goes p e below (PostW s Z consts_1 h0 [] (Q0 Z cz fm kv p0 p1 p2 p3 h0) room_1.cells room_1.slots) (T39.setTop (mkF m 144 #[.val (.int p0), .val (.int p1), .val (.int p2), .val (.int p3), .val (.int (2 : Int32)), .val (.ref a28), .val (.ref a31), .val (.ref a33), .val (.ref a31)] [(.int (([(OwnKit.i2c (p1 &&& (65535 : Int32))), (OwnKit.i2c (p2 &&& (65535 : Int32)))] : List Int32).getD 1 0))]))
      rw [show ([(OwnKit.i2c (p1 &&& (65535 : Int32))), (OwnKit.i2c (p2 &&& (65535 : Int32)))] : List Int32).getD 1 0 = (OwnKit.i2c (p2 &&& (65535 : Int32))) from rfl]
      show Goes p e below (PostW s Z consts_1 h0 [] (Q0 Z cz fm kv p0 p1 p2 p3 h0) room_1.cells room_1.slots) (T39.setTop (mkF m 144 #[.val (.int p0), .val (.int p1), .val (.int p2), .val (.int p3), .val (.int (2 : Int32)), .val (.ref a28), .val (.ref a31), .val (.ref a33), .val (.ref a31)] [(.int (OwnKit.i2c (p2 &&& (65535 : Int32))))]))
      refine G.aload H39 hx 146 (hb hby at_144) rfl rfl rfl ?_
      refine G.iconst H39 hx 147 (1 : Int32) (hb hby at_146) rfl rfl ?_
      refine Wk.caload W39 hx ((((((((V30.ext E31).keep K32 (ninS (neA (by omega)) nin0)).keep K33 nin0).keep K34 nin0).keep K36 nin0).keep K37 nin0).keep K38 nin0).keep K39 nin0) ⟨by decide, by decide⟩ (.int (OwnKit.i2c (p2 &&& (65535 : Int32)))) rfl 148 (hb hby at_147) rfl ?_
      refine G.icmpY H39 hx 153 (hb hby at_148) (teq rfl).1 (by decide) rfl ?_
      refine G.iload H39 hx 155 (hb hby at_153) rfl rfl ?_
      refine G.iconst H39 hx 156 (2 : Int32) (hb hby at_155) rfl rfl ?_
      refine G.icmpY H39 hx 174 (hb hby at_156) (flt (by decide)).2.2.2 (by decide) rfl ?_
      refine G.iconst H39 hx 175 (1 : Int32) (hb hby at_174) rfl rfl ?_
      exact Wk.retNW W39 hx hEL (1 : Int32) (t := .boolean) rfl (by simp) hret hlk (hb hby at_175) (by decide) (by decide) rfl
    ·
      refine Wk.newO W30 hx hoZ (wd hw 1 rfl) (wd hw 2 rfl) (wd hw 3 rfl) 58 (hb hby at_55) rfl (by decide) (by decide) ?_
      intro T40 h40 a40 W40 E40 g40 A40 D40 S40
      have H40 := W40.here; have z40 := E40.1; have gu40 := Nat.le_of_eq g40; have gt40 := Nat.le_of_eq g40.symm; have l40 := ltN A40.lt
      refine G.dup H40 hx 59 (hb hby at_58) rfl rfl ?_
      refine G.aload H40 hx 61 (hb hby at_59) rfl rfl rfl ?_
      refine Wk.special W40 hx hoZ (y := (⟨"java/lang/String", "<init>", "([C)V"⟩ : MethodName)) rfl (wd hw 4 rfl) (wd hw 5 rfl) (wd hw 6 rfl) (by decide) (Wd := 1) (CN.back (rmUN1_2 l Z a0 hw cz a40 a28 k28 (OwnKit.i2c (p1 &&& (65535 : Int32))) (OwnKit.i2c (p2 &&& (65535 : Int32))) h40 W40.old hCS hcz hAD hHI hLO (i2c_c16 _) (i2c_c16 _) al (V30.ext E40) (by omega) A40 (D40 (Or.inr (wd hw 16 rfl)) (ty := (.array .byte)) (by decide)) (D40 (Or.inr (wd hw 17 rfl)) (ty := .byte) (by decide))) W40.warm (wd hw 6 rfl) (wd hw 3 rfl) (by decide) (by decide)) a40 (by rw [hml]; rfl) [(.ref a28)] [(.ref a40)] (lenOf pd16 rfl) rfl rfl (Nat.le_of_eq rfl) 64 (hb hby at_61) rfl (by decide) (by decide) (hws1 (Or.inr (by omega)) S40) ?_
      intro v41 T41 h41 W41 K41 Ch41 Q41
      have H41 := W41.here; have z41 := K41.1
      obtain ⟨rfl, X41, F41c, b41, k41, F41v, V41⟩ := Q41; have l41 := ltN V41.lt
      show Goes p e below (PostW s Z consts_1 h0 [] (Q0 Z cz fm kv p0 p1 p2 p3 h0) room_1.cells room_1.slots) (T41.setTop (mkF m 64 #[.val (.int p0), .val (.int p1), .val (.int p2), .val (.int p3), .val (.int (2 : Int32)), .val (.ref a28), .unset, .unset, .unset] [(.ref a40)]))
      refine G.astore H41 hx 66 #[.val (.int p0), .val (.int p1), .val (.int p2), .val (.int p3), .val (.int (2 : Int32)), .val (.ref a28), .val (.ref a40), .unset, .unset] (hb hby at_64) rfl rfl rfl ?_
      refine G.aload H41 hx 68 (hb hby at_66) rfl rfl rfl ?_
      refine Wk.callS W41 hx hoZ (y := (⟨"com/example/nuntius/nuntius/http/ParameterValue", "of", "(Ljava/lang/String;)Lcom/example/nuntius/nuntius/http/ParameterValue;"⟩ : MethodName)) (wd hw 22 rfl) (wd hw 23 rfl) (wd hw 24 rfl) (wd hw 25 rfl) (by decide) (Wd := 0) (CN.back (rmNum l Z a0 hw kv a40 h41 W41.old hNB hkv) W41.warm (wd hw 25 rfl) (wd hw 24 rfl) (by decide) (by decide)) (by rw [hml]; rfl) [(.ref a40)] [] (lenOf pd17 rfl) rfl rfl (Nat.le_of_eq rfl) 71 (hb hby at_68) rfl (by decide) (by decide) (fun _ q => nomatch q) ?_
      intro v42 T42 h42 W42 K42 Ch42 Q42
      have H42 := W42.here; have z42 := K42.1
      obtain ⟨a42, rfl, g42, X42, F42k, F42t⟩ := Q42; have l42 := ltN X42.lt
      show Goes p e below (PostW s Z consts_1 h0 [] (Q0 Z cz fm kv p0 p1 p2 p3 h0) room_1.cells room_1.slots) (T42.setTop (mkF m 71 #[.val (.int p0), .val (.int p1), .val (.int p2), .val (.int p3), .val (.int (2 : Int32)), .val (.ref a28), .val (.ref a40), .unset, .unset] [(.ref a42)]))
      refine G.astore H42 hx 73 #[.val (.int p0), .val (.int p1), .val (.int p2), .val (.int p3), .val (.int (2 : Int32)), .val (.ref a28), .val (.ref a40), .val (.ref a42), .unset] (hb hby at_71) rfl rfl rfl ?_
      refine G.aload H42 hx 75 (hb hby at_73) rfl rfl rfl ?_
      refine Wk.virtual W42 hx hoZ (y := (⟨"com/example/nuntius/nuntius/http/ParameterValue", "kind", "()Lcom/example/nuntius/nuntius/http/ParameterValue$Kind;"⟩ : MethodName)) (z := (⟨"com/example/nuntius/nuntius/http/ParameterValue", "kind", "()Lcom/example/nuntius/nuntius/http/ParameterValue$Kind;"⟩ : MethodName)) (wd hw 44 rfl) (wd hw 45 rfl) (wd hw 47 rfl) (wd hw 46 rfl) (W42.nf (wd hw 47 rfl)) (by decide) (Wd := 0) (CN.back (rmKd l Z a0 hw a42 kv h42 W42.old F42k hkv) W42.warm (wd hw 48 rfl) (wd hw 24 rfl) (by decide) (by decide)) X42 (by rw [hml]; rfl) [] [] (lenOf pd18 rfl) rfl rfl (Nat.le_of_eq rfl) 78 (hb hby at_75) rfl (by decide) (by decide) (fun _ q => nomatch q) ?_
      intro v43 T43 h43 W43 K43 Ch43 Q43
      have H43 := W43.here; have z43 := K43.1
      obtain ⟨rfl, eh43⟩ := Q43
      show Goes p e below (PostW s Z consts_1 h0 [] (Q0 Z cz fm kv p0 p1 p2 p3 h0) room_1.cells room_1.slots) (T43.setTop (mkF m 78 #[.val (.int p0), .val (.int p1), .val (.int p2), .val (.int p3), .val (.int (2 : Int32)), .val (.ref a28), .val (.ref a40), .val (.ref a42), .unset] [kv]))
      refine Wk.getS W43 hx hoZ (wd hw 49 rfl) Via.refl (hNB.ext W43.old) 81 (hb hby at_78) rfl ?_
      intro T44 W44; have H44 := W44.here
      refine G.acmpY H44 hx 86 (hb hby at_81) hkv hkv (by (simp [XT.acmp] /- true -/)) (by decide) rfl ?_
      refine G.aload H44 hx 88 (hb hby at_86) rfl rfl rfl ?_
      refine Wk.virtual W44 hx hoZ (y := (⟨"com/example/nuntius/nuntius/http/ParameterValue", "text", "()Ljava/lang/String;"⟩ : MethodName)) (z := (⟨"com/example/nuntius/nuntius/http/ParameterValue", "text", "()Ljava/lang/String;"⟩ : MethodName)) (wd hw 50 rfl) (wd hw 51 rfl) (wd hw 53 rfl) (wd hw 52 rfl) (W44.nf (wd hw 53 rfl)) (by decide) (Wd := 0) (CN.back (rmTx l Z a0 hw a42 (.ref a40) h43 W44.old (F42t.keep K43 nin0) rfl) W44.warm (wd hw 54 rfl) (wd hw 24 rfl) (by decide) (by decide)) (X42.keep K43) (by rw [hml]; rfl) [] [] (lenOf pd19 rfl) rfl rfl (Nat.le_of_eq rfl) 91 (hb hby at_88) rfl (by decide) (by decide) (fun _ q => nomatch q) ?_
      intro v45 T45 h45 W45 K45 Ch45 Q45
      have H45 := W45.here; have z45 := K45.1
      obtain ⟨rfl, eh45⟩ := Q45
      show Goes p e below (PostW s Z consts_1 h0 [] (Q0 Z cz fm kv p0 p1 p2 p3 h0) room_1.cells room_1.slots) (T45.setTop (mkF m 91 #[.val (.int p0), .val (.int p1), .val (.int p2), .val (.int p3), .val (.int (2 : Int32)), .val (.ref a28), .val (.ref a40), .val (.ref a42), .unset] [(.ref a40)]))
      refine G.astore H45 hx 93 #[.val (.int p0), .val (.int p1), .val (.int p2), .val (.int p3), .val (.int (2 : Int32)), .val (.ref a28), .val (.ref a40), .val (.ref a42), .val (.ref a40)] (hb hby at_91) rfl rfl rfl ?_
      refine G.aload H45 hx 95 (hb hby at_93) rfl rfl rfl ?_
      refine G.ifnonnullY H45 hx 100 (hb hby at_95) (by decide) rfl ?_
      refine G.aload H45 hx 102 (hb hby at_100) rfl rfl rfl ?_
      refine Wk.virtual W45 hx hoZ (y := (⟨"java/lang/String", "length", "()I"⟩ : MethodName)) (z := (⟨"java/lang/String", "length", "()I"⟩ : MethodName)) (wd hw 55 rfl) (wd hw 56 rfl) (wd hw 58 rfl) (wd hw 57 rfl) (W45.nf (wd hw 58 rfl)) (by decide) (Wd := 0) (CN.back (rmUSl2 l Z a0 hw cz a40 b41 k41 (OwnKit.i2c (p1 &&& (65535 : Int32))) (OwnKit.i2c (p2 &&& (65535 : Int32))) h45 W45.old hCS hcz (((X41.keep K42).keep K43).keep K45) (((F41c.keep K42 nin0).keep K43 nin0).keep K45 nin0) (((F41v.keep K42 nin0).keep K43 nin0).keep K45 nin0) (((V41.keep K42 nin0).keep K43 nin0).keep K45 nin0)) W45.warm (wd hw 59 rfl) (wd hw 3 rfl) (by decide) (by decide)) (((X41.keep K42).keep K43).keep K45) (by rw [hml]; rfl) [] [] (lenOf pd20 rfl) rfl rfl (Nat.le_of_eq rfl) 105 (hb hby at_102) rfl (by decide) (by decide) (fun _ q => nomatch q) ?_
      intro v46 T46 h46 W46 K46 Ch46 Q46
      have H46 := W46.here; have z46 := K46.1
      obtain ⟨rfl, eh46⟩ := Q46
      show Goes p e below (PostW s Z consts_1 h0 [] (Q0 Z cz fm kv p0 p1 p2 p3 h0) room_1.cells room_1.slots) (T46.setTop (mkF m 105 #[.val (.int p0), .val (.int p1), .val (.int p2), .val (.int p3), .val (.int (2 : Int32)), .val (.ref a28), .val (.ref a40), .val (.ref a42), .val (.ref a40)] [(.int (2 : Int32))]))
      refine G.iload H46 hx 107 (hb hby at_105) rfl rfl ?_
      refine G.icmpY H46 hx 112 (hb hby at_107) (teq (by decide)).1 (by decide) rfl ?_
      refine G.iload H46 hx 114 (hb hby at_112) rfl rfl ?_
      refine G.ifN H46 hx 117 (hb hby at_114) (zgt (by decide)).2 rfl ?_
      refine G.aload H46 hx 119 (hb hby at_117) rfl rfl rfl ?_
      refine G.iconst H46 hx 120 (0 : Int32) (hb hby at_119) rfl rfl ?_
      refine Wk.virtual W46 hx hoZ (y := (⟨"java/lang/String", "charAt", "(I)C"⟩ : MethodName)) (z := (⟨"java/lang/String", "charAt", "(I)C"⟩ : MethodName)) (wd hw 77 rfl) (wd hw 78 rfl) (wd hw 80 rfl) (wd hw 79 rfl) (W46.nf (wd hw 80 rfl)) (by decide) (Wd := 0) (CN.back (rmUSc2_0 l Z a0 hw cz fm a40 b41 k41 (OwnKit.i2c (p1 &&& (65535 : Int32))) (OwnKit.i2c (p2 &&& (65535 : Int32))) h46 W46.old hAD hHI hLO (i2c_c16 _) (i2c_c16 _) hFM hfm hCS hcz ((((X41.keep K42).keep K43).keep K45).keep K46) ((((F41c.keep K42 nin0).keep K43 nin0).keep K45 nin0).keep K46 nin0) ((((F41v.keep K42 nin0).keep K43 nin0).keep K45 nin0).keep K46 nin0) ((((V41.keep K42 nin0).keep K43 nin0).keep K45 nin0).keep K46 nin0)) W46.warm (wd hw 81 rfl) (wd hw 3 rfl) (by decide) (by decide)) ((((X41.keep K42).keep K43).keep K45).keep K46) (by rw [hml]; rfl) [(.int (0 : Int32))] [] (lenOf pd21 rfl) rfl rfl (Nat.le_of_eq rfl) 123 (hb hby at_120) rfl (by decide) (by decide) (fun _ q => nomatch q) ?_
      intro v47 T47 h47 W47 K47 Ch47 Q47
      have H47 := W47.here; have z47 := K47.1
      obtain ⟨rfl, eh47⟩ := Q47
      show Goes p e below (PostW s Z consts_1 h0 [] (Q0 Z cz fm kv p0 p1 p2 p3 h0) room_1.cells room_1.slots) (T47.setTop (mkF m 123 #[.val (.int p0), .val (.int p1), .val (.int p2), .val (.int p3), .val (.int (2 : Int32)), .val (.ref a28), .val (.ref a40), .val (.ref a42), .val (.ref a40)] [(.int (OwnKit.i2c (p1 &&& (65535 : Int32))))]))
      refine G.aload H47 hx 125 (hb hby at_123) rfl rfl rfl ?_
      refine G.iconst H47 hx 126 (0 : Int32) (hb hby at_125) rfl rfl ?_
      refine Wk.caload W47 hx (((((((V30.ext E40).keep K41 (ninS (neA (by omega)) nin0)).keep K42 nin0).keep K43 nin0).keep K45 nin0).keep K46 nin0).keep K47 nin0) ⟨by decide, by decide⟩ (.int (OwnKit.i2c (p1 &&& (65535 : Int32)))) rfl 127 (hb hby at_126) rfl ?_
      refine G.icmpY H47 hx 132 (hb hby at_127) (teq rfl).1 (by decide) rfl ?_
      refine G.iload H47 hx 134 (hb hby at_132) rfl rfl ?_
      refine G.iconst H47 hx 135 (1 : Int32) (hb hby at_134) rfl rfl ?_
      refine G.icmpN H47 hx 138 (hb hby at_135) (tlt (by decide)).2.2.2 rfl ?_
      refine G.aload H47 hx 140 (hb hby at_138) rfl rfl rfl ?_
      refine G.iconst H47 hx 141 (1 : Int32) (hb hby at_140) rfl rfl ?_
      refine Wk.virtual W47 hx hoZ (y := (⟨"java/lang/String", "charAt", "(I)C"⟩ : MethodName)) (z := (⟨"java/lang/String", "charAt", "(I)C"⟩ : MethodName)) (wd hw 77 rfl) (wd hw 78 rfl) (wd hw 80 rfl) (wd hw 79 rfl) (W47.nf (wd hw 80 rfl)) (by decide) (Wd := 0) (CN.back (rmUSc2_1 l Z a0 hw cz fm a40 b41 k41 (OwnKit.i2c (p1 &&& (65535 : Int32))) (OwnKit.i2c (p2 &&& (65535 : Int32))) h47 W47.old hAD hHI hLO (i2c_c16 _) (i2c_c16 _) hFM hfm hCS hcz (((((X41.keep K42).keep K43).keep K45).keep K46).keep K47) (((((F41c.keep K42 nin0).keep K43 nin0).keep K45 nin0).keep K46 nin0).keep K47 nin0) (((((F41v.keep K42 nin0).keep K43 nin0).keep K45 nin0).keep K46 nin0).keep K47 nin0) (((((V41.keep K42 nin0).keep K43 nin0).keep K45 nin0).keep K46 nin0).keep K47 nin0)) W47.warm (wd hw 81 rfl) (wd hw 3 rfl) (by decide) (by decide)) (((((X41.keep K42).keep K43).keep K45).keep K46).keep K47) (by rw [hml]; rfl) [(.int (1 : Int32))] [] (lenOf pd21 rfl) rfl rfl (Nat.le_of_eq rfl) 144 (hb hby at_141) rfl (by decide) (by decide) (fun _ q => nomatch q) ?_
      intro v48 T48 h48 W48 K48 Ch48 Q48
      have H48 := W48.here; have z48 := K48.1
      obtain ⟨rfl, eh48⟩ := Q48
      show Goes p e below (PostW s Z consts_1 h0 [] (Q0 Z cz fm kv p0 p1 p2 p3 h0) room_1.cells room_1.slots) (T48.setTop (mkF m 144 #[.val (.int p0), .val (.int p1), .val (.int p2), .val (.int p3), .val (.int (2 : Int32)), .val (.ref a28), .val (.ref a40), .val (.ref a42), .val (.ref a40)] [(.int (OwnKit.i2c (p2 &&& (65535 : Int32))))]))
      refine G.aload H48 hx 146 (hb hby at_144) rfl rfl rfl ?_
      refine G.iconst H48 hx 147 (1 : Int32) (hb hby at_146) rfl rfl ?_
      refine Wk.caload W48 hx ((((((((V30.ext E40).keep K41 (ninS (neA (by omega)) nin0)).keep K42 nin0).keep K43 nin0).keep K45 nin0).keep K46 nin0).keep K47 nin0).keep K48 nin0) ⟨by decide, by decide⟩ (.int (OwnKit.i2c (p2 &&& (65535 : Int32)))) rfl 148 (hb hby at_147) rfl ?_
      refine G.icmpY H48 hx 153 (hb hby at_148) (teq rfl).1 (by decide) rfl ?_
      refine G.iload H48 hx 155 (hb hby at_153) rfl rfl ?_
      refine G.iconst H48 hx 156 (2 : Int32) (hb hby at_155) rfl rfl ?_
      refine G.icmpY H48 hx 174 (hb hby at_156) (flt (by decide)).2.2.2 (by decide) rfl ?_
      refine G.iconst H48 hx 175 (1 : Int32) (hb hby at_174) rfl rfl ?_
      exact Wk.retNW W48 hx hEL (1 : Int32) (t := .boolean) rfl (by simp) hret hlk (hb hby at_175) (by decide) (by decide) rfl
  ·
    refine G.iload H0 hx 7 (hb hby at_5) rfl rfl ?_
    refine Wk.newP W0 hx (wd hw 0 rfl) 9 (hb hby at_7) (by decide) 3 (by decide) rfl (by decide) (by decide) (by decide) ?_
    intro T49 h49 a49 k49 W49 E49 g49 V49 S49
    have H49 := W49.here; have z49 := E49.1; have gu49 := Nat.le_of_eq g49; have gt49 := Nat.le_of_eq g49.symm; have l49 := ltN V49.lt
    have V49 : Arv Z h49 a49 k49 .char (3 : Int32) [(.int (0 : Int32)), (.int (0 : Int32)), (.int (0 : Int32))] (.int (0 : Int32)) := V49
    refine G.astore H49 hx 11 #[.val (.int p0), .val (.int p1), .val (.int p2), .val (.int p3), .val (.int (3 : Int32)), .val (.ref a49), .unset, .unset, .unset] (hb hby at_9) rfl rfl rfl ?_
    refine G.iload H49 hx 13 (hb hby at_11) rfl rfl ?_
    refine G.ifN H49 hx 16 (hb hby at_13) (zgt (by decide)).2 rfl ?_
    refine G.aload H49 hx 18 (hb hby at_16) rfl rfl rfl ?_
    refine G.iconst H49 hx 19 (0 : Int32) (hb hby at_18) rfl rfl ?_
    refine G.iloadN H49 hx 20 (hb hby at_19) rfl rfl ?_
    refine Wk.ldcI W49 hx hoZ (wd hw 66 rfl) 22 (hb hby at_20) rfl ?_
    refine G.iand H49 hx 23 (hb hby at_22) rfl ?_
    refine G.i2c H49 hx 24 (hb hby at_23) rfl ?_
    refine Wk.castore W49 hx V49 (Or.inr (by omega)) (OwnKit.i2c (p1 &&& (65535 : Int32))) (nar_c16 (i2c_c16 _)) 0 rfl ⟨by decide, by decide⟩ (Nat.le_of_ble_eq_true rfl) 25 (hb hby at_24) rfl ?_
    intro T50 h50 W50 K50 Ch50 V50; have H50 := W50.here; have z50 := K50.1
    have V50 : Arv Z h50 a49 k49 .char (3 : Int32) [(.int (OwnKit.i2c (p1 &&& (65535 : Int32)))), (.int (0 : Int32)), (.int (0 : Int32))] (.int (0 : Int32)) := V50
    refine G.iload H50 hx 27 (hb hby at_25) rfl rfl ?_
    refine G.iconst H50 hx 28 (1 : Int32) (hb hby at_27) rfl rfl ?_
    refine G.icmpN H50 hx 31 (hb hby at_28) (tlt (by decide)).2.2.2 rfl ?_
    refine G.aload H50 hx 33 (hb hby at_31) rfl rfl rfl ?_
    refine G.iconst H50 hx 34 (1 : Int32) (hb hby at_33) rfl rfl ?_
    refine G.iloadN H50 hx 35 (hb hby at_34) rfl rfl ?_
    refine Wk.ldcI W50 hx hoZ (wd hw 66 rfl) 37 (hb hby at_35) rfl ?_
    refine G.iand H50 hx 38 (hb hby at_37) rfl ?_
    refine G.i2c H50 hx 39 (hb hby at_38) rfl ?_
    refine Wk.castore W50 hx V50 (Or.inr (by omega)) (OwnKit.i2c (p2 &&& (65535 : Int32))) (nar_c16 (i2c_c16 _)) 1 rfl ⟨by decide, by decide⟩ (Nat.le_of_ble_eq_true rfl) 40 (hb hby at_39) rfl ?_
    intro T51 h51 W51 K51 Ch51 V51; have H51 := W51.here; have z51 := K51.1
    have V51 : Arv Z h51 a49 k49 .char (3 : Int32) [(.int (OwnKit.i2c (p1 &&& (65535 : Int32)))), (.int (OwnKit.i2c (p2 &&& (65535 : Int32)))), (.int (0 : Int32))] (.int (0 : Int32)) := V51
    refine G.iload H51 hx 42 (hb hby at_40) rfl rfl ?_
    refine G.iconst H51 hx 43 (2 : Int32) (hb hby at_42) rfl rfl ?_
    refine G.icmpN H51 hx 46 (hb hby at_43) (tlt (by decide)).2.2.2 rfl ?_
    refine G.aload H51 hx 48 (hb hby at_46) rfl rfl rfl ?_
    refine G.iconst H51 hx 49 (2 : Int32) (hb hby at_48) rfl rfl ?_
    refine G.iloadN H51 hx 50 (hb hby at_49) rfl rfl ?_
    refine Wk.ldcI W51 hx hoZ (wd hw 66 rfl) 52 (hb hby at_50) rfl ?_
    refine G.iand H51 hx 53 (hb hby at_52) rfl ?_
    refine G.i2c H51 hx 54 (hb hby at_53) rfl ?_
    refine Wk.castore W51 hx V51 (Or.inr (by omega)) (OwnKit.i2c (p3 &&& (65535 : Int32))) (nar_c16 (i2c_c16 _)) 2 rfl ⟨by decide, by decide⟩ (Nat.le_of_ble_eq_true rfl) 55 (hb hby at_54) rfl ?_
    intro T52 h52 W52 K52 Ch52 V52; have H52 := W52.here; have z52 := K52.1
    have V52 : Arv Z h52 a49 k49 .char (3 : Int32) [(.int (OwnKit.i2c (p1 &&& (65535 : Int32)))), (.int (OwnKit.i2c (p2 &&& (65535 : Int32)))), (.int (OwnKit.i2c (p3 &&& (65535 : Int32))))] (.int (0 : Int32)) := V52
    by_cases al : (¬ (255 : Int32) < (OwnKit.i2c (p1 &&& (65535 : Int32))) ∧ ¬ (255 : Int32) < (OwnKit.i2c (p2 &&& (65535 : Int32))) ∧ ¬ (255 : Int32) < (OwnKit.i2c (p3 &&& (65535 : Int32))))
    ·
      refine Wk.newO W52 hx hoZ (wd hw 1 rfl) (wd hw 2 rfl) (wd hw 3 rfl) 58 (hb hby at_55) rfl (by decide) (by decide) ?_
      intro T53 h53 a53 W53 E53 g53 A53 D53 S53
      have H53 := W53.here; have z53 := E53.1; have gu53 := Nat.le_of_eq g53; have gt53 := Nat.le_of_eq g53.symm; have l53 := ltN A53.lt
      refine G.dup H53 hx 59 (hb hby at_58) rfl rfl ?_
      refine G.aload H53 hx 61 (hb hby at_59) rfl rfl rfl ?_
      refine Wk.special W53 hx hoZ (y := (⟨"java/lang/String", "<init>", "([C)V"⟩ : MethodName)) rfl (wd hw 4 rfl) (wd hw 5 rfl) (wd hw 6 rfl) (by decide) (Wd := 1) (newS W53.warm (wsNew hw) (wd hw 2 rfl) W53.old (by omega) A53 (D53 (Or.inr (wd hw 16 rfl)) (ty := (.array .byte)) (by decide)) (D53 (Or.inr (wd hw 17 rfl)) (ty := .byte) (by decide)) (cs := [(OwnKit.i2c (p1 &&& (65535 : Int32))), (OwnKit.i2c (p2 &&& (65535 : Int32))), (OwnKit.i2c (p3 &&& (65535 : Int32)))]) (V52.ext E53) hCS hcz 3 rfl rfl (by decide) (by decide) (ala ⟨(i2c_c16 _).1, al.1⟩ (ala ⟨(i2c_c16 _).1, al.2.1⟩ (ala ⟨(i2c_c16 _).1, al.2.2⟩ (ala0)))) (by decide) (by decide)) a53 (by rw [hml]; rfl) [(.ref a49)] [(.ref a53)] (lenOf pd16 rfl) rfl rfl (Nat.le_of_eq rfl) 64 (hb hby at_61) rfl (by decide) (by decide) (hws1 (Or.inr (by omega)) S53) ?_
      intro v54 T54 h54 W54 K54 Ch54 Q54
      have H54 := W54.here; have z54 := K54.1
      obtain ⟨rfl, Sv54⟩ := Q54
      show Goes p e below (PostW s Z consts_1 h0 [] (Q0 Z cz fm kv p0 p1 p2 p3 h0) room_1.cells room_1.slots) (T54.setTop (mkF m 64 #[.val (.int p0), .val (.int p1), .val (.int p2), .val (.int p3), .val (.int (3 : Int32)), .val (.ref a49), .unset, .unset, .unset] [(.ref a53)]))
      refine G.astore H54 hx 66 #[.val (.int p0), .val (.int p1), .val (.int p2), .val (.int p3), .val (.int (3 : Int32)), .val (.ref a49), .val (.ref a53), .unset, .unset] (hb hby at_64) rfl rfl rfl ?_
      refine G.aload H54 hx 68 (hb hby at_66) rfl rfl rfl ?_
      refine Wk.callS W54 hx hoZ (y := (⟨"com/example/nuntius/nuntius/http/ParameterValue", "of", "(Ljava/lang/String;)Lcom/example/nuntius/nuntius/http/ParameterValue;"⟩ : MethodName)) (wd hw 22 rfl) (wd hw 23 rfl) (wd hw 24 rfl) (wd hw 25 rfl) (by decide) (Wd := 0) (CN.back (rmNum l Z a0 hw kv a53 h54 W54.old hNB hkv) W54.warm (wd hw 25 rfl) (wd hw 24 rfl) (by decide) (by decide)) (by rw [hml]; rfl) [(.ref a53)] [] (lenOf pd17 rfl) rfl rfl (Nat.le_of_eq rfl) 71 (hb hby at_68) rfl (by decide) (by decide) (fun _ q => nomatch q) ?_
      intro v55 T55 h55 W55 K55 Ch55 Q55
      have H55 := W55.here; have z55 := K55.1
      obtain ⟨a55, rfl, g55, X55, F55k, F55t⟩ := Q55; have l55 := ltN X55.lt
      show Goes p e below (PostW s Z consts_1 h0 [] (Q0 Z cz fm kv p0 p1 p2 p3 h0) room_1.cells room_1.slots) (T55.setTop (mkF m 71 #[.val (.int p0), .val (.int p1), .val (.int p2), .val (.int p3), .val (.int (3 : Int32)), .val (.ref a49), .val (.ref a53), .unset, .unset] [(.ref a55)]))
      refine G.astore H55 hx 73 #[.val (.int p0), .val (.int p1), .val (.int p2), .val (.int p3), .val (.int (3 : Int32)), .val (.ref a49), .val (.ref a53), .val (.ref a55), .unset] (hb hby at_71) rfl rfl rfl ?_
      refine G.aload H55 hx 75 (hb hby at_73) rfl rfl rfl ?_
      refine Wk.virtual W55 hx hoZ (y := (⟨"com/example/nuntius/nuntius/http/ParameterValue", "kind", "()Lcom/example/nuntius/nuntius/http/ParameterValue$Kind;"⟩ : MethodName)) (z := (⟨"com/example/nuntius/nuntius/http/ParameterValue", "kind", "()Lcom/example/nuntius/nuntius/http/ParameterValue$Kind;"⟩ : MethodName)) (wd hw 44 rfl) (wd hw 45 rfl) (wd hw 47 rfl) (wd hw 46 rfl) (W55.nf (wd hw 47 rfl)) (by decide) (Wd := 0) (CN.back (rmKd l Z a0 hw a55 kv h55 W55.old F55k hkv) W55.warm (wd hw 48 rfl) (wd hw 24 rfl) (by decide) (by decide)) X55 (by rw [hml]; rfl) [] [] (lenOf pd18 rfl) rfl rfl (Nat.le_of_eq rfl) 78 (hb hby at_75) rfl (by decide) (by decide) (fun _ q => nomatch q) ?_
      intro v56 T56 h56 W56 K56 Ch56 Q56
      have H56 := W56.here; have z56 := K56.1
      obtain ⟨rfl, eh56⟩ := Q56
      show Goes p e below (PostW s Z consts_1 h0 [] (Q0 Z cz fm kv p0 p1 p2 p3 h0) room_1.cells room_1.slots) (T56.setTop (mkF m 78 #[.val (.int p0), .val (.int p1), .val (.int p2), .val (.int p3), .val (.int (3 : Int32)), .val (.ref a49), .val (.ref a53), .val (.ref a55), .unset] [kv]))
      refine Wk.getS W56 hx hoZ (wd hw 49 rfl) Via.refl (hNB.ext W56.old) 81 (hb hby at_78) rfl ?_
      intro T57 W57; have H57 := W57.here
      refine G.acmpY H57 hx 86 (hb hby at_81) hkv hkv (by (simp [XT.acmp] /- true -/)) (by decide) rfl ?_
      refine G.aload H57 hx 88 (hb hby at_86) rfl rfl rfl ?_
      refine Wk.virtual W57 hx hoZ (y := (⟨"com/example/nuntius/nuntius/http/ParameterValue", "text", "()Ljava/lang/String;"⟩ : MethodName)) (z := (⟨"com/example/nuntius/nuntius/http/ParameterValue", "text", "()Ljava/lang/String;"⟩ : MethodName)) (wd hw 50 rfl) (wd hw 51 rfl) (wd hw 53 rfl) (wd hw 52 rfl) (W57.nf (wd hw 53 rfl)) (by decide) (Wd := 0) (CN.back (rmTx l Z a0 hw a55 (.ref a53) h56 W57.old (F55t.keep K56 nin0) rfl) W57.warm (wd hw 54 rfl) (wd hw 24 rfl) (by decide) (by decide)) (X55.keep K56) (by rw [hml]; rfl) [] [] (lenOf pd19 rfl) rfl rfl (Nat.le_of_eq rfl) 91 (hb hby at_88) rfl (by decide) (by decide) (fun _ q => nomatch q) ?_
      intro v58 T58 h58 W58 K58 Ch58 Q58
      have H58 := W58.here; have z58 := K58.1
      obtain ⟨rfl, eh58⟩ := Q58
      show Goes p e below (PostW s Z consts_1 h0 [] (Q0 Z cz fm kv p0 p1 p2 p3 h0) room_1.cells room_1.slots) (T58.setTop (mkF m 91 #[.val (.int p0), .val (.int p1), .val (.int p2), .val (.int p3), .val (.int (3 : Int32)), .val (.ref a49), .val (.ref a53), .val (.ref a55), .unset] [(.ref a53)]))
      refine G.astore H58 hx 93 #[.val (.int p0), .val (.int p1), .val (.int p2), .val (.int p3), .val (.int (3 : Int32)), .val (.ref a49), .val (.ref a53), .val (.ref a55), .val (.ref a53)] (hb hby at_91) rfl rfl rfl ?_
      refine G.aload H58 hx 95 (hb hby at_93) rfl rfl rfl ?_
      refine G.ifnonnullY H58 hx 100 (hb hby at_95) (by decide) rfl ?_
      refine G.aload H58 hx 102 (hb hby at_100) rfl rfl rfl ?_
      refine Wk.virtual W58 hx hoZ (y := (⟨"java/lang/String", "length", "()I"⟩ : MethodName)) (z := (⟨"java/lang/String", "length", "()I"⟩ : MethodName)) (wd hw 55 rfl) (wd hw 56 rfl) (wd hw 58 rfl) (wd hw 57 rfl) (W58.nf (wd hw 58 rfl)) (by decide) (Wd := 0) (lenS W58.warm (wsLen hw) (wd hw 2 rfl) W58.old (((Sv54.keepX K55 ala0).keepX K56 ala0).keepX K58 ala0) hCS hcz (by decide) (by decide)) (((Sv54.exa.keep K55).keep K56).keep K58) (by rw [hml]; rfl) [] [] (lenOf pd20 rfl) rfl rfl (Nat.le_of_eq rfl) 105 (hb hby at_102) rfl (by decide) (by decide) (fun _ q => nomatch q) ?_
      intro v59 T59 h59 W59 K59 Ch59 Q59
      have H59 := W59.here; have z59 := K59.1
      obtain ⟨rfl, eh59⟩ := Q59
      show Goes p e below (PostW s Z consts_1 h0 [] (Q0 Z cz fm kv p0 p1 p2 p3 h0) room_1.cells room_1.slots) (T59.setTop (mkF m 105 #[.val (.int p0), .val (.int p1), .val (.int p2), .val (.int p3), .val (.int (3 : Int32)), .val (.ref a49), .val (.ref a53), .val (.ref a55), .val (.ref a53)] [(.int (Int32.ofNat ([(OwnKit.i2c (p1 &&& (65535 : Int32))), (OwnKit.i2c (p2 &&& (65535 : Int32))), (OwnKit.i2c (p3 &&& (65535 : Int32)))] : List Int32).length))]))
      rw [show Int32.ofNat ([(OwnKit.i2c (p1 &&& (65535 : Int32))), (OwnKit.i2c (p2 &&& (65535 : Int32))), (OwnKit.i2c (p3 &&& (65535 : Int32)))] : List Int32).length = (3 : Int32) from rfl]
      show Goes p e below (PostW s Z consts_1 h0 [] (Q0 Z cz fm kv p0 p1 p2 p3 h0) room_1.cells room_1.slots) (T59.setTop (mkF m 105 #[.val (.int p0), .val (.int p1), .val (.int p2), .val (.int p3), .val (.int (3 : Int32)), .val (.ref a49), .val (.ref a53), .val (.ref a55), .val (.ref a53)] [(.int (3 : Int32))]))
      refine G.iload H59 hx 107 (hb hby at_105) rfl rfl ?_
      refine G.icmpY H59 hx 112 (hb hby at_107) (teq (by decide)).1 (by decide) rfl ?_
      refine G.iload H59 hx 114 (hb hby at_112) rfl rfl ?_
      refine G.ifN H59 hx 117 (hb hby at_114) (zgt (by decide)).2 rfl ?_
      refine G.aload H59 hx 119 (hb hby at_117) rfl rfl rfl ?_
      refine G.iconst H59 hx 120 (0 : Int32) (hb hby at_119) rfl rfl ?_
      refine Wk.virtual W59 hx hoZ (y := (⟨"java/lang/String", "charAt", "(I)C"⟩ : MethodName)) (z := (⟨"java/lang/String", "charAt", "(I)C"⟩ : MethodName)) (wd hw 77 rfl) (wd hw 78 rfl) (wd hw 80 rfl) (wd hw 79 rfl) (W59.nf (wd hw 80 rfl)) (by decide) (Wd := 0) (chS W59.warm (wsCh hw) (wd hw 2 rfl) W59.old ((((Sv54.keepX K55 ala0).keepX K56 ala0).keepX K58 ala0).keepX K59 ala0) (ala ⟨(i2c_c16 _).1, al.1⟩ (ala ⟨(i2c_c16 _).1, al.2.1⟩ (ala ⟨(i2c_c16 _).1, al.2.2⟩ (ala0)))) hCS hcz hFM hfm 0 (Nat.le_of_ble_eq_true rfl) rfl (by decide) (by decide)) ((((Sv54.exa.keep K55).keep K56).keep K58).keep K59) (by rw [hml]; rfl) [(.int (0 : Int32))] [] (lenOf pd21 rfl) rfl rfl (Nat.le_of_eq rfl) 123 (hb hby at_120) rfl (by decide) (by decide) (fun _ q => nomatch q) ?_
      intro v60 T60 h60 W60 K60 Ch60 Q60
      have H60 := W60.here; have z60 := K60.1
      obtain ⟨rfl, eh60⟩ := Q60
      show Goes p e below (PostW s Z consts_1 h0 [] (Q0 Z cz fm kv p0 p1 p2 p3 h0) room_1.cells room_1.slots) (T60.setTop (mkF m 123 #[.val (.int p0), .val (.int p1), .val (.int p2), .val (.int p3), .val (.int (3 : Int32)), .val (.ref a49), .val (.ref a53), .val (.ref a55), .val (.ref a53)] [(.int (([(OwnKit.i2c (p1 &&& (65535 : Int32))), (OwnKit.i2c (p2 &&& (65535 : Int32))), (OwnKit.i2c (p3 &&& (65535 : Int32)))] : List Int32).getD 0 0))]))
      rw [show ([(OwnKit.i2c (p1 &&& (65535 : Int32))), (OwnKit.i2c (p2 &&& (65535 : Int32))), (OwnKit.i2c (p3 &&& (65535 : Int32)))] : List Int32).getD 0 0 = (OwnKit.i2c (p1 &&& (65535 : Int32))) from rfl]
      show Goes p e below (PostW s Z consts_1 h0 [] (Q0 Z cz fm kv p0 p1 p2 p3 h0) room_1.cells room_1.slots) (T60.setTop (mkF m 123 #[.val (.int p0), .val (.int p1), .val (.int p2), .val (.int p3), .val (.int (3 : Int32)), .val (.ref a49), .val (.ref a53), .val (.ref a55), .val (.ref a53)] [(.int (OwnKit.i2c (p1 &&& (65535 : Int32))))]))
      refine G.aload H60 hx 125 (hb hby at_123) rfl rfl rfl ?_
      refine G.iconst H60 hx 126 (0 : Int32) (hb hby at_125) rfl rfl ?_
      refine Wk.caload W60 hx (((((((V52.ext E53).keep K54 (ninS (neA (by omega)) nin0)).keep K55 nin0).keep K56 nin0).keep K58 nin0).keep K59 nin0).keep K60 nin0) ⟨by decide, by decide⟩ (.int (OwnKit.i2c (p1 &&& (65535 : Int32)))) rfl 127 (hb hby at_126) rfl ?_
      refine G.icmpY H60 hx 132 (hb hby at_127) (teq rfl).1 (by decide) rfl ?_
      refine G.iload H60 hx 134 (hb hby at_132) rfl rfl ?_
      refine G.iconst H60 hx 135 (1 : Int32) (hb hby at_134) rfl rfl ?_
      refine G.icmpN H60 hx 138 (hb hby at_135) (tlt (by decide)).2.2.2 rfl ?_
      refine G.aload H60 hx 140 (hb hby at_138) rfl rfl rfl ?_
      refine G.iconst H60 hx 141 (1 : Int32) (hb hby at_140) rfl rfl ?_
      refine Wk.virtual W60 hx hoZ (y := (⟨"java/lang/String", "charAt", "(I)C"⟩ : MethodName)) (z := (⟨"java/lang/String", "charAt", "(I)C"⟩ : MethodName)) (wd hw 77 rfl) (wd hw 78 rfl) (wd hw 80 rfl) (wd hw 79 rfl) (W60.nf (wd hw 80 rfl)) (by decide) (Wd := 0) (chS W60.warm (wsCh hw) (wd hw 2 rfl) W60.old (((((Sv54.keepX K55 ala0).keepX K56 ala0).keepX K58 ala0).keepX K59 ala0).keepX K60 ala0) (ala ⟨(i2c_c16 _).1, al.1⟩ (ala ⟨(i2c_c16 _).1, al.2.1⟩ (ala ⟨(i2c_c16 _).1, al.2.2⟩ (ala0)))) hCS hcz hFM hfm 1 (Nat.le_of_ble_eq_true rfl) rfl (by decide) (by decide)) (((((Sv54.exa.keep K55).keep K56).keep K58).keep K59).keep K60) (by rw [hml]; rfl) [(.int (1 : Int32))] [] (lenOf pd21 rfl) rfl rfl (Nat.le_of_eq rfl) 144 (hb hby at_141) rfl (by decide) (by decide) (fun _ q => nomatch q) ?_
      intro v61 T61 h61 W61 K61 Ch61 Q61
      have H61 := W61.here; have z61 := K61.1
      obtain ⟨rfl, eh61⟩ := Q61
      show Goes p e below (PostW s Z consts_1 h0 [] (Q0 Z cz fm kv p0 p1 p2 p3 h0) room_1.cells room_1.slots) (T61.setTop (mkF m 144 #[.val (.int p0), .val (.int p1), .val (.int p2), .val (.int p3), .val (.int (3 : Int32)), .val (.ref a49), .val (.ref a53), .val (.ref a55), .val (.ref a53)] [(.int (([(OwnKit.i2c (p1 &&& (65535 : Int32))), (OwnKit.i2c (p2 &&& (65535 : Int32))), (OwnKit.i2c (p3 &&& (65535 : Int32)))] : List Int32).getD 1 0))]))
      rw [show ([(OwnKit.i2c (p1 &&& (65535 : Int32))), (OwnKit.i2c (p2 &&& (65535 : Int32))), (OwnKit.i2c (p3 &&& (65535 : Int32)))] : List Int32).getD 1 0 = (OwnKit.i2c (p2 &&& (65535 : Int32))) from rfl]
      show Goes p e below (PostW s Z consts_1 h0 [] (Q0 Z cz fm kv p0 p1 p2 p3 h0) room_1.cells room_1.slots) (T61.setTop (mkF m 144 #[.val (.int p0), .val (.int p1), .val (.int p2), .val (.int p3), .val (.int (3 : Int32)), .val (.ref a49), .val (.ref a53), .val (.ref a55), .val (.ref a53)] [(.int (OwnKit.i2c (p2 &&& (65535 : Int32))))]))
      refine G.aload H61 hx 146 (hb hby at_144) rfl rfl rfl ?_
      refine G.iconst H61 hx 147 (1 : Int32) (hb hby at_146) rfl rfl ?_
      refine Wk.caload W61 hx ((((((((V52.ext E53).keep K54 (ninS (neA (by omega)) nin0)).keep K55 nin0).keep K56 nin0).keep K58 nin0).keep K59 nin0).keep K60 nin0).keep K61 nin0) ⟨by decide, by decide⟩ (.int (OwnKit.i2c (p2 &&& (65535 : Int32)))) rfl 148 (hb hby at_147) rfl ?_
      refine G.icmpY H61 hx 153 (hb hby at_148) (teq rfl).1 (by decide) rfl ?_
      refine G.iload H61 hx 155 (hb hby at_153) rfl rfl ?_
      refine G.iconst H61 hx 156 (2 : Int32) (hb hby at_155) rfl rfl ?_
      refine G.icmpN H61 hx 159 (hb hby at_156) (tlt (by decide)).2.2.2 rfl ?_
      refine G.aload H61 hx 161 (hb hby at_159) rfl rfl rfl ?_
      refine G.iconst H61 hx 162 (2 : Int32) (hb hby at_161) rfl rfl ?_
      refine Wk.virtual W61 hx hoZ (y := (⟨"java/lang/String", "charAt", "(I)C"⟩ : MethodName)) (z := (⟨"java/lang/String", "charAt", "(I)C"⟩ : MethodName)) (wd hw 77 rfl) (wd hw 78 rfl) (wd hw 80 rfl) (wd hw 79 rfl) (W61.nf (wd hw 80 rfl)) (by decide) (Wd := 0) (chS W61.warm (wsCh hw) (wd hw 2 rfl) W61.old ((((((Sv54.keepX K55 ala0).keepX K56 ala0).keepX K58 ala0).keepX K59 ala0).keepX K60 ala0).keepX K61 ala0) (ala ⟨(i2c_c16 _).1, al.1⟩ (ala ⟨(i2c_c16 _).1, al.2.1⟩ (ala ⟨(i2c_c16 _).1, al.2.2⟩ (ala0)))) hCS hcz hFM hfm 2 (Nat.le_of_ble_eq_true rfl) rfl (by decide) (by decide)) ((((((Sv54.exa.keep K55).keep K56).keep K58).keep K59).keep K60).keep K61) (by rw [hml]; rfl) [(.int (2 : Int32))] [] (lenOf pd21 rfl) rfl rfl (Nat.le_of_eq rfl) 165 (hb hby at_162) rfl (by decide) (by decide) (fun _ q => nomatch q) ?_
      intro v62 T62 h62 W62 K62 Ch62 Q62
      have H62 := W62.here; have z62 := K62.1
      obtain ⟨rfl, eh62⟩ := Q62
      show Goes p e below (PostW s Z consts_1 h0 [] (Q0 Z cz fm kv p0 p1 p2 p3 h0) room_1.cells room_1.slots) (T62.setTop (mkF m 165 #[.val (.int p0), .val (.int p1), .val (.int p2), .val (.int p3), .val (.int (3 : Int32)), .val (.ref a49), .val (.ref a53), .val (.ref a55), .val (.ref a53)] [(.int (([(OwnKit.i2c (p1 &&& (65535 : Int32))), (OwnKit.i2c (p2 &&& (65535 : Int32))), (OwnKit.i2c (p3 &&& (65535 : Int32)))] : List Int32).getD 2 0))]))
      rw [show ([(OwnKit.i2c (p1 &&& (65535 : Int32))), (OwnKit.i2c (p2 &&& (65535 : Int32))), (OwnKit.i2c (p3 &&& (65535 : Int32)))] : List Int32).getD 2 0 = (OwnKit.i2c (p3 &&& (65535 : Int32))) from rfl]
      show Goes p e below (PostW s Z consts_1 h0 [] (Q0 Z cz fm kv p0 p1 p2 p3 h0) room_1.cells room_1.slots) (T62.setTop (mkF m 165 #[.val (.int p0), .val (.int p1), .val (.int p2), .val (.int p3), .val (.int (3 : Int32)), .val (.ref a49), .val (.ref a53), .val (.ref a55), .val (.ref a53)] [(.int (OwnKit.i2c (p3 &&& (65535 : Int32))))]))
      refine G.aload H62 hx 167 (hb hby at_165) rfl rfl rfl ?_
      refine G.iconst H62 hx 168 (2 : Int32) (hb hby at_167) rfl rfl ?_
      refine Wk.caload W62 hx (((((((((V52.ext E53).keep K54 (ninS (neA (by omega)) nin0)).keep K55 nin0).keep K56 nin0).keep K58 nin0).keep K59 nin0).keep K60 nin0).keep K61 nin0).keep K62 nin0) ⟨by decide, by decide⟩ (.int (OwnKit.i2c (p3 &&& (65535 : Int32)))) rfl 169 (hb hby at_168) rfl ?_
      refine G.icmpY H62 hx 174 (hb hby at_169) (teq rfl).1 (by decide) rfl ?_
      refine G.iconst H62 hx 175 (1 : Int32) (hb hby at_174) rfl rfl ?_
      exact Wk.retNW W62 hx hEL (1 : Int32) (t := .boolean) rfl (by simp) hret hlk (hb hby at_175) (by decide) (by decide) rfl
    ·
      refine Wk.newO W52 hx hoZ (wd hw 1 rfl) (wd hw 2 rfl) (wd hw 3 rfl) 58 (hb hby at_55) rfl (by decide) (by decide) ?_
      intro T63 h63 a63 W63 E63 g63 A63 D63 S63
      have H63 := W63.here; have z63 := E63.1; have gu63 := Nat.le_of_eq g63; have gt63 := Nat.le_of_eq g63.symm; have l63 := ltN A63.lt
      refine G.dup H63 hx 59 (hb hby at_58) rfl rfl ?_
      refine G.aload H63 hx 61 (hb hby at_59) rfl rfl rfl ?_
      refine Wk.special W63 hx hoZ (y := (⟨"java/lang/String", "<init>", "([C)V"⟩ : MethodName)) rfl (wd hw 4 rfl) (wd hw 5 rfl) (wd hw 6 rfl) (by decide) (Wd := 1) (CN.back (rmUN1_3 l Z a0 hw cz a63 a49 k49 (OwnKit.i2c (p1 &&& (65535 : Int32))) (OwnKit.i2c (p2 &&& (65535 : Int32))) (OwnKit.i2c (p3 &&& (65535 : Int32))) h63 W63.old hCS hcz hAD hHI hLO (i2c_c16 _) (i2c_c16 _) (i2c_c16 _) al (V52.ext E63) (by omega) A63 (D63 (Or.inr (wd hw 16 rfl)) (ty := (.array .byte)) (by decide)) (D63 (Or.inr (wd hw 17 rfl)) (ty := .byte) (by decide))) W63.warm (wd hw 6 rfl) (wd hw 3 rfl) (by decide) (by decide)) a63 (by rw [hml]; rfl) [(.ref a49)] [(.ref a63)] (lenOf pd16 rfl) rfl rfl (Nat.le_of_eq rfl) 64 (hb hby at_61) rfl (by decide) (by decide) (hws1 (Or.inr (by omega)) S63) ?_
      intro v64 T64 h64 W64 K64 Ch64 Q64
      have H64 := W64.here; have z64 := K64.1
      obtain ⟨rfl, X64, F64c, b64, k64, F64v, V64⟩ := Q64; have l64 := ltN V64.lt
      show Goes p e below (PostW s Z consts_1 h0 [] (Q0 Z cz fm kv p0 p1 p2 p3 h0) room_1.cells room_1.slots) (T64.setTop (mkF m 64 #[.val (.int p0), .val (.int p1), .val (.int p2), .val (.int p3), .val (.int (3 : Int32)), .val (.ref a49), .unset, .unset, .unset] [(.ref a63)]))
      refine G.astore H64 hx 66 #[.val (.int p0), .val (.int p1), .val (.int p2), .val (.int p3), .val (.int (3 : Int32)), .val (.ref a49), .val (.ref a63), .unset, .unset] (hb hby at_64) rfl rfl rfl ?_
      refine G.aload H64 hx 68 (hb hby at_66) rfl rfl rfl ?_
      refine Wk.callS W64 hx hoZ (y := (⟨"com/example/nuntius/nuntius/http/ParameterValue", "of", "(Ljava/lang/String;)Lcom/example/nuntius/nuntius/http/ParameterValue;"⟩ : MethodName)) (wd hw 22 rfl) (wd hw 23 rfl) (wd hw 24 rfl) (wd hw 25 rfl) (by decide) (Wd := 0) (CN.back (rmNum l Z a0 hw kv a63 h64 W64.old hNB hkv) W64.warm (wd hw 25 rfl) (wd hw 24 rfl) (by decide) (by decide)) (by rw [hml]; rfl) [(.ref a63)] [] (lenOf pd17 rfl) rfl rfl (Nat.le_of_eq rfl) 71 (hb hby at_68) rfl (by decide) (by decide) (fun _ q => nomatch q) ?_
      intro v65 T65 h65 W65 K65 Ch65 Q65
      have H65 := W65.here; have z65 := K65.1
      obtain ⟨a65, rfl, g65, X65, F65k, F65t⟩ := Q65; have l65 := ltN X65.lt
      show Goes p e below (PostW s Z consts_1 h0 [] (Q0 Z cz fm kv p0 p1 p2 p3 h0) room_1.cells room_1.slots) (T65.setTop (mkF m 71 #[.val (.int p0), .val (.int p1), .val (.int p2), .val (.int p3), .val (.int (3 : Int32)), .val (.ref a49), .val (.ref a63), .unset, .unset] [(.ref a65)]))
      refine G.astore H65 hx 73 #[.val (.int p0), .val (.int p1), .val (.int p2), .val (.int p3), .val (.int (3 : Int32)), .val (.ref a49), .val (.ref a63), .val (.ref a65), .unset] (hb hby at_71) rfl rfl rfl ?_
      refine G.aload H65 hx 75 (hb hby at_73) rfl rfl rfl ?_
      refine Wk.virtual W65 hx hoZ (y := (⟨"com/example/nuntius/nuntius/http/ParameterValue", "kind", "()Lcom/example/nuntius/nuntius/http/ParameterValue$Kind;"⟩ : MethodName)) (z := (⟨"com/example/nuntius/nuntius/http/ParameterValue", "kind", "()Lcom/example/nuntius/nuntius/http/ParameterValue$Kind;"⟩ : MethodName)) (wd hw 44 rfl) (wd hw 45 rfl) (wd hw 47 rfl) (wd hw 46 rfl) (W65.nf (wd hw 47 rfl)) (by decide) (Wd := 0) (CN.back (rmKd l Z a0 hw a65 kv h65 W65.old F65k hkv) W65.warm (wd hw 48 rfl) (wd hw 24 rfl) (by decide) (by decide)) X65 (by rw [hml]; rfl) [] [] (lenOf pd18 rfl) rfl rfl (Nat.le_of_eq rfl) 78 (hb hby at_75) rfl (by decide) (by decide) (fun _ q => nomatch q) ?_
      intro v66 T66 h66 W66 K66 Ch66 Q66
      have H66 := W66.here; have z66 := K66.1
      obtain ⟨rfl, eh66⟩ := Q66
      show Goes p e below (PostW s Z consts_1 h0 [] (Q0 Z cz fm kv p0 p1 p2 p3 h0) room_1.cells room_1.slots) (T66.setTop (mkF m 78 #[.val (.int p0), .val (.int p1), .val (.int p2), .val (.int p3), .val (.int (3 : Int32)), .val (.ref a49), .val (.ref a63), .val (.ref a65), .unset] [kv]))
      refine Wk.getS W66 hx hoZ (wd hw 49 rfl) Via.refl (hNB.ext W66.old) 81 (hb hby at_78) rfl ?_
      intro T67 W67; have H67 := W67.here
      refine G.acmpY H67 hx 86 (hb hby at_81) hkv hkv (by (simp [XT.acmp] /- true -/)) (by decide) rfl ?_
      refine G.aload H67 hx 88 (hb hby at_86) rfl rfl rfl ?_
      refine Wk.virtual W67 hx hoZ (y := (⟨"com/example/nuntius/nuntius/http/ParameterValue", "text", "()Ljava/lang/String;"⟩ : MethodName)) (z := (⟨"com/example/nuntius/nuntius/http/ParameterValue", "text", "()Ljava/lang/String;"⟩ : MethodName)) (wd hw 50 rfl) (wd hw 51 rfl) (wd hw 53 rfl) (wd hw 52 rfl) (W67.nf (wd hw 53 rfl)) (by decide) (Wd := 0) (CN.back (rmTx l Z a0 hw a65 (.ref a63) h66 W67.old (F65t.keep K66 nin0) rfl) W67.warm (wd hw 54 rfl) (wd hw 24 rfl) (by decide) (by decide)) (X65.keep K66) (by rw [hml]; rfl) [] [] (lenOf pd19 rfl) rfl rfl (Nat.le_of_eq rfl) 91 (hb hby at_88) rfl (by decide) (by decide) (fun _ q => nomatch q) ?_
      intro v68 T68 h68 W68 K68 Ch68 Q68
      have H68 := W68.here; have z68 := K68.1
      obtain ⟨rfl, eh68⟩ := Q68
      show Goes p e below (PostW s Z consts_1 h0 [] (Q0 Z cz fm kv p0 p1 p2 p3 h0) room_1.cells room_1.slots) (T68.setTop (mkF m 91 #[.val (.int p0), .val (.int p1), .val (.int p2), .val (.int p3), .val (.int (3 : Int32)), .val (.ref a49), .val (.ref a63), .val (.ref a65), .unset] [(.ref a63)]))
      refine G.astore H68 hx 93 #[.val (.int p0), .val (.int p1), .val (.int p2), .val (.int p3), .val (.int (3 : Int32)), .val (.ref a49), .val (.ref a63), .val (.ref a65), .val (.ref a63)] (hb hby at_91) rfl rfl rfl ?_
      refine G.aload H68 hx 95 (hb hby at_93) rfl rfl rfl ?_
      refine G.ifnonnullY H68 hx 100 (hb hby at_95) (by decide) rfl ?_
      refine G.aload H68 hx 102 (hb hby at_100) rfl rfl rfl ?_
      refine Wk.virtual W68 hx hoZ (y := (⟨"java/lang/String", "length", "()I"⟩ : MethodName)) (z := (⟨"java/lang/String", "length", "()I"⟩ : MethodName)) (wd hw 55 rfl) (wd hw 56 rfl) (wd hw 58 rfl) (wd hw 57 rfl) (W68.nf (wd hw 58 rfl)) (by decide) (Wd := 0) (CN.back (rmUSl3 l Z a0 hw cz a63 b64 k64 (OwnKit.i2c (p1 &&& (65535 : Int32))) (OwnKit.i2c (p2 &&& (65535 : Int32))) (OwnKit.i2c (p3 &&& (65535 : Int32))) h68 W68.old hCS hcz (((X64.keep K65).keep K66).keep K68) (((F64c.keep K65 nin0).keep K66 nin0).keep K68 nin0) (((F64v.keep K65 nin0).keep K66 nin0).keep K68 nin0) (((V64.keep K65 nin0).keep K66 nin0).keep K68 nin0)) W68.warm (wd hw 59 rfl) (wd hw 3 rfl) (by decide) (by decide)) (((X64.keep K65).keep K66).keep K68) (by rw [hml]; rfl) [] [] (lenOf pd20 rfl) rfl rfl (Nat.le_of_eq rfl) 105 (hb hby at_102) rfl (by decide) (by decide) (fun _ q => nomatch q) ?_
      intro v69 T69 h69 W69 K69 Ch69 Q69
      have H69 := W69.here; have z69 := K69.1
      obtain ⟨rfl, eh69⟩ := Q69
      show Goes p e below (PostW s Z consts_1 h0 [] (Q0 Z cz fm kv p0 p1 p2 p3 h0) room_1.cells room_1.slots) (T69.setTop (mkF m 105 #[.val (.int p0), .val (.int p1), .val (.int p2), .val (.int p3), .val (.int (3 : Int32)), .val (.ref a49), .val (.ref a63), .val (.ref a65), .val (.ref a63)] [(.int (3 : Int32))]))
      refine G.iload H69 hx 107 (hb hby at_105) rfl rfl ?_
      refine G.icmpY H69 hx 112 (hb hby at_107) (teq (by decide)).1 (by decide) rfl ?_
      refine G.iload H69 hx 114 (hb hby at_112) rfl rfl ?_
      refine G.ifN H69 hx 117 (hb hby at_114) (zgt (by decide)).2 rfl ?_
      refine G.aload H69 hx 119 (hb hby at_117) rfl rfl rfl ?_
      refine G.iconst H69 hx 120 (0 : Int32) (hb hby at_119) rfl rfl ?_
      refine Wk.virtual W69 hx hoZ (y := (⟨"java/lang/String", "charAt", "(I)C"⟩ : MethodName)) (z := (⟨"java/lang/String", "charAt", "(I)C"⟩ : MethodName)) (wd hw 77 rfl) (wd hw 78 rfl) (wd hw 80 rfl) (wd hw 79 rfl) (W69.nf (wd hw 80 rfl)) (by decide) (Wd := 0) (CN.back (rmUSc3_0 l Z a0 hw cz fm a63 b64 k64 (OwnKit.i2c (p1 &&& (65535 : Int32))) (OwnKit.i2c (p2 &&& (65535 : Int32))) (OwnKit.i2c (p3 &&& (65535 : Int32))) h69 W69.old hAD hHI hLO (i2c_c16 _) (i2c_c16 _) (i2c_c16 _) hFM hfm hCS hcz ((((X64.keep K65).keep K66).keep K68).keep K69) ((((F64c.keep K65 nin0).keep K66 nin0).keep K68 nin0).keep K69 nin0) ((((F64v.keep K65 nin0).keep K66 nin0).keep K68 nin0).keep K69 nin0) ((((V64.keep K65 nin0).keep K66 nin0).keep K68 nin0).keep K69 nin0)) W69.warm (wd hw 81 rfl) (wd hw 3 rfl) (by decide) (by decide)) ((((X64.keep K65).keep K66).keep K68).keep K69) (by rw [hml]; rfl) [(.int (0 : Int32))] [] (lenOf pd21 rfl) rfl rfl (Nat.le_of_eq rfl) 123 (hb hby at_120) rfl (by decide) (by decide) (fun _ q => nomatch q) ?_
      intro v70 T70 h70 W70 K70 Ch70 Q70
      have H70 := W70.here; have z70 := K70.1
      obtain ⟨rfl, eh70⟩ := Q70
      show Goes p e below (PostW s Z consts_1 h0 [] (Q0 Z cz fm kv p0 p1 p2 p3 h0) room_1.cells room_1.slots) (T70.setTop (mkF m 123 #[.val (.int p0), .val (.int p1), .val (.int p2), .val (.int p3), .val (.int (3 : Int32)), .val (.ref a49), .val (.ref a63), .val (.ref a65), .val (.ref a63)] [(.int (OwnKit.i2c (p1 &&& (65535 : Int32))))]))
      refine G.aload H70 hx 125 (hb hby at_123) rfl rfl rfl ?_
      refine G.iconst H70 hx 126 (0 : Int32) (hb hby at_125) rfl rfl ?_
      refine Wk.caload W70 hx (((((((V52.ext E63).keep K64 (ninS (neA (by omega)) nin0)).keep K65 nin0).keep K66 nin0).keep K68 nin0).keep K69 nin0).keep K70 nin0) ⟨by decide, by decide⟩ (.int (OwnKit.i2c (p1 &&& (65535 : Int32)))) rfl 127 (hb hby at_126) rfl ?_
      refine G.icmpY H70 hx 132 (hb hby at_127) (teq rfl).1 (by decide) rfl ?_
      refine G.iload H70 hx 134 (hb hby at_132) rfl rfl ?_
      refine G.iconst H70 hx 135 (1 : Int32) (hb hby at_134) rfl rfl ?_
      refine G.icmpN H70 hx 138 (hb hby at_135) (tlt (by decide)).2.2.2 rfl ?_
      refine G.aload H70 hx 140 (hb hby at_138) rfl rfl rfl ?_
      refine G.iconst H70 hx 141 (1 : Int32) (hb hby at_140) rfl rfl ?_
      refine Wk.virtual W70 hx hoZ (y := (⟨"java/lang/String", "charAt", "(I)C"⟩ : MethodName)) (z := (⟨"java/lang/String", "charAt", "(I)C"⟩ : MethodName)) (wd hw 77 rfl) (wd hw 78 rfl) (wd hw 80 rfl) (wd hw 79 rfl) (W70.nf (wd hw 80 rfl)) (by decide) (Wd := 0) (CN.back (rmUSc3_1 l Z a0 hw cz fm a63 b64 k64 (OwnKit.i2c (p1 &&& (65535 : Int32))) (OwnKit.i2c (p2 &&& (65535 : Int32))) (OwnKit.i2c (p3 &&& (65535 : Int32))) h70 W70.old hAD hHI hLO (i2c_c16 _) (i2c_c16 _) (i2c_c16 _) hFM hfm hCS hcz (((((X64.keep K65).keep K66).keep K68).keep K69).keep K70) (((((F64c.keep K65 nin0).keep K66 nin0).keep K68 nin0).keep K69 nin0).keep K70 nin0) (((((F64v.keep K65 nin0).keep K66 nin0).keep K68 nin0).keep K69 nin0).keep K70 nin0) (((((V64.keep K65 nin0).keep K66 nin0).keep K68 nin0).keep K69 nin0).keep K70 nin0)) W70.warm (wd hw 81 rfl) (wd hw 3 rfl) (by decide) (by decide)) (((((X64.keep K65).keep K66).keep K68).keep K69).keep K70) (by rw [hml]; rfl) [(.int (1 : Int32))] [] (lenOf pd21 rfl) rfl rfl (Nat.le_of_eq rfl) 144 (hb hby at_141) rfl (by decide) (by decide) (fun _ q => nomatch q) ?_
      intro v71 T71 h71 W71 K71 Ch71 Q71
      have H71 := W71.here; have z71 := K71.1
      obtain ⟨rfl, eh71⟩ := Q71
      show Goes p e below (PostW s Z consts_1 h0 [] (Q0 Z cz fm kv p0 p1 p2 p3 h0) room_1.cells room_1.slots) (T71.setTop (mkF m 144 #[.val (.int p0), .val (.int p1), .val (.int p2), .val (.int p3), .val (.int (3 : Int32)), .val (.ref a49), .val (.ref a63), .val (.ref a65), .val (.ref a63)] [(.int (OwnKit.i2c (p2 &&& (65535 : Int32))))]))
      refine G.aload H71 hx 146 (hb hby at_144) rfl rfl rfl ?_
      refine G.iconst H71 hx 147 (1 : Int32) (hb hby at_146) rfl rfl ?_
      refine Wk.caload W71 hx ((((((((V52.ext E63).keep K64 (ninS (neA (by omega)) nin0)).keep K65 nin0).keep K66 nin0).keep K68 nin0).keep K69 nin0).keep K70 nin0).keep K71 nin0) ⟨by decide, by decide⟩ (.int (OwnKit.i2c (p2 &&& (65535 : Int32)))) rfl 148 (hb hby at_147) rfl ?_
      refine G.icmpY H71 hx 153 (hb hby at_148) (teq rfl).1 (by decide) rfl ?_
      refine G.iload H71 hx 155 (hb hby at_153) rfl rfl ?_
      refine G.iconst H71 hx 156 (2 : Int32) (hb hby at_155) rfl rfl ?_
      refine G.icmpN H71 hx 159 (hb hby at_156) (tlt (by decide)).2.2.2 rfl ?_
      refine G.aload H71 hx 161 (hb hby at_159) rfl rfl rfl ?_
      refine G.iconst H71 hx 162 (2 : Int32) (hb hby at_161) rfl rfl ?_
      refine Wk.virtual W71 hx hoZ (y := (⟨"java/lang/String", "charAt", "(I)C"⟩ : MethodName)) (z := (⟨"java/lang/String", "charAt", "(I)C"⟩ : MethodName)) (wd hw 77 rfl) (wd hw 78 rfl) (wd hw 80 rfl) (wd hw 79 rfl) (W71.nf (wd hw 80 rfl)) (by decide) (Wd := 0) (CN.back (rmUSc3_2 l Z a0 hw cz fm a63 b64 k64 (OwnKit.i2c (p1 &&& (65535 : Int32))) (OwnKit.i2c (p2 &&& (65535 : Int32))) (OwnKit.i2c (p3 &&& (65535 : Int32))) h71 W71.old hAD hHI hLO (i2c_c16 _) (i2c_c16 _) (i2c_c16 _) hFM hfm hCS hcz ((((((X64.keep K65).keep K66).keep K68).keep K69).keep K70).keep K71) ((((((F64c.keep K65 nin0).keep K66 nin0).keep K68 nin0).keep K69 nin0).keep K70 nin0).keep K71 nin0) ((((((F64v.keep K65 nin0).keep K66 nin0).keep K68 nin0).keep K69 nin0).keep K70 nin0).keep K71 nin0) ((((((V64.keep K65 nin0).keep K66 nin0).keep K68 nin0).keep K69 nin0).keep K70 nin0).keep K71 nin0)) W71.warm (wd hw 81 rfl) (wd hw 3 rfl) (by decide) (by decide)) ((((((X64.keep K65).keep K66).keep K68).keep K69).keep K70).keep K71) (by rw [hml]; rfl) [(.int (2 : Int32))] [] (lenOf pd21 rfl) rfl rfl (Nat.le_of_eq rfl) 165 (hb hby at_162) rfl (by decide) (by decide) (fun _ q => nomatch q) ?_
      intro v72 T72 h72 W72 K72 Ch72 Q72
      have H72 := W72.here; have z72 := K72.1
      obtain ⟨rfl, eh72⟩ := Q72
      show Goes p e below (PostW s Z consts_1 h0 [] (Q0 Z cz fm kv p0 p1 p2 p3 h0) room_1.cells room_1.slots) (T72.setTop (mkF m 165 #[.val (.int p0), .val (.int p1), .val (.int p2), .val (.int p3), .val (.int (3 : Int32)), .val (.ref a49), .val (.ref a63), .val (.ref a65), .val (.ref a63)] [(.int (OwnKit.i2c (p3 &&& (65535 : Int32))))]))
      refine G.aload H72 hx 167 (hb hby at_165) rfl rfl rfl ?_
      refine G.iconst H72 hx 168 (2 : Int32) (hb hby at_167) rfl rfl ?_
      refine Wk.caload W72 hx (((((((((V52.ext E63).keep K64 (ninS (neA (by omega)) nin0)).keep K65 nin0).keep K66 nin0).keep K68 nin0).keep K69 nin0).keep K70 nin0).keep K71 nin0).keep K72 nin0) ⟨by decide, by decide⟩ (.int (OwnKit.i2c (p3 &&& (65535 : Int32)))) rfl 169 (hb hby at_168) rfl ?_
      refine G.icmpY H72 hx 174 (hb hby at_169) (teq rfl).1 (by decide) rfl ?_
      refine G.iconst H72 hx 175 (1 : Int32) (hb hby at_174) rfl rfl ?_
      exact Wk.retNW W72 hx hEL (1 : Int32) (t := .boolean) rfl (by simp) hret hlk (hb hby at_175) (by decide) (by decide) rfl
set_option maxRecDepth 65536 in
set_option maxHeartbeats 40000000 in
theorem comes_1 {Post : Tables → Env → Array Value → State → Outcome → State → Prop} (hpost : ∀ tb e args s v u, (limb_1_1.after args s (.returned v) u = true ∧ limb_1_2.after args s (.returned v) u = true ∧ True) → ReturnedEndW s (.returned v) u (Jvm.fieldLocs frame_1_writes args s ++ Jvm.arrayLocs frame_1_arrays args s ++ Jvm.staticLocs frame_1_statics s) 24 1152 → Post tb e args s (.returned v) u) :
    ArmFor flags0 classFile x code maxLocals ret World_1 tables_1 room_1 Calls_1 rest_1 Pre_1 Post := by
  intro l hfl _ _ p e ha hc hk s m args below hf hA hF happ hP
  obtain ⟨hcalls, hrest, hpre⟩ := hP
  obtain ⟨-, -, -, hnamed, -, -, -, hat⟩ := (Spec.applies_iff hf).mp happ
  obtain ⟨hg, hn⟩ := and_e (Cond.before_iff.mp (show (Jvm.Cond.and given_1 narrow_1).before args s = true from hpre))
  obtain ⟨hcount, hg0⟩ := and_e hg
  obtain ⟨ha0, hg1⟩ := and_e hg0
  obtain ⟨ha1, hg2⟩ := and_e hg1
  obtain ⟨ha2, hg3⟩ := and_e hg2
  obtain ⟨w0, w1, w2, w3, rfl⟩ : ∃ w0 w1 w2 w3 : Value, args = #[w0, w1, w2, w3] := by
    have hs : args.size = 4 := by simpa [Cond.value, given_1] using hcount
    obtain ⟨L⟩ := args
    match L, hs with
    | [w0, w1, w2, w3], _ => exact ⟨w0, w1, w2, w3, rfl⟩
  have hw := fun d (hd : d ∈ tables_1) => atoms_spec (ws := Jvm.Cond.code x code maxLocals ret :: tables_1) hat d (List.mem_cons_of_mem _ hd)
  obtain ⟨hsets, hown0⟩ := atoms_of _ (rest_1_c_eq ▸ (show rest_1_c.before _ s = true from hrest))
  have n5 := not_v (Cond.before_iff.mp (hsets _ (List.mem_of_getElem? (i := 2) rfl)))
  obtain ⟨i0, ei0⟩ := is_v ha0
  obtain rfl : w0 = (.int i0) := Option.some.inj ei0
  obtain ⟨i1, ei1⟩ := is_v ha1
  obtain rfl : w1 = (.int i1) := Option.some.inj ei1
  obtain ⟨i2, ei2⟩ := is_v ha2
  obtain rfl : w2 = (.int i2) := Option.some.inj ei2
  obtain ⟨i3, ei3⟩ := is_v hg3
  obtain rfl : w3 = (.int i3) := Option.some.inj ei3
  obtain ⟨cz, ecz⟩ := is_v (Cond.before_iff.mp (hsets _ (List.mem_of_getElem? (i := 1) rfl)))
  have hCS : Sta s s.heap "java/lang/String" "COMPACT_STRINGS" "Z" (.int cz) := Sta.start ecz (Or.inl (hsets _ (List.mem_of_getElem? (i := 0) rfl)))
  obtain ⟨fm, efm, hfm⟩ := isR_v (Cond.before_iff.mp (hsets _ (List.mem_of_getElem? (i := 8) rfl)))
  have hFM : Sta s s.heap "jdk/internal/util/Preconditions" "SIOOBE_FORMATTER" "Ljava/util/function/BiFunction;" fm := Sta.start efm (Or.inl (hsets _ (List.mem_of_getElem? (i := 7) rfl)))
  have hcz : ¬ cz = (0 : Int32) := gotF (Cond.eq_ints ecz (Term.int_eval (0))) n5
  have hCH : CHv s consts_1 s.vm s.heap := CHv.start (elw hw) (fun p hp => hcalls.1 p hp) (hsets _ (List.mem_of_getElem? (i := 2) rfl)) (wsStr hw _ (by simp [Bundle.stringAtoms])) (wsStr hw _ (by simp [Bundle.stringAtoms, Bundle.sN]))
  have hfit : Fit s := fun {y c} hc i hi => by
    obtain ⟨ha, rfl⟩ := Array.getElem?_eq_some_iff.mp hc
    have q := List.all_eq_true.mp ((Array.all_eq_true_iff_forall_mem.mp hF) _ (Array.getElem_mem ha)) i (List.mem_range.mpr hi)
    simpa [Array.getElem?_eq_getElem hi] using q
  obtain ⟨kv, ekv, fkv⟩ := static_fit hfit (wd hw 30 rfl) (ty := .object "com/example/nuntius/nuntius/http/ParameterValue$Kind") (by decide)
  have hkv : kv.isRef = true := by cases kv <;> first | rfl | (exact absurd fkv (by simp [fits]))
  have hNB : Sta s s.heap "com/example/nuntius/nuntius/http/ParameterValue$Kind" "TEXT" "Lcom/example/nuntius/nuntius/http/ParameterValue$Kind;" kv := Sta.start ekv (Or.inr ⟨(wd hw 29 rfl), (wd hw 30 rfl)⟩)
  have hAD := Sta.start (Jvm.Lib.String.coder.eq_spec (hsets _ (List.mem_of_getElem? (i := 12) rfl))) (Or.inl (hsets _ (List.mem_of_getElem? (i := 11) rfl)))
  have hHI := Sta.start (Jvm.Lib.String.coder.eq_spec (hsets _ (List.mem_of_getElem? (i := 15) rfl))) (Or.inl (hsets _ (List.mem_of_getElem? (i := 14) rfl)))
  have hLO := Sta.start (Jvm.Lib.String.coder.eq_spec (hsets _ (List.mem_of_getElem? (i := 18) rfl))) (Or.inl (hsets _ (List.mem_of_getElem? (i := 17) rfl)))
  obtain ⟨n, o, h1, h2, h3, _, L, rfl, ⟨N, -, rfl⟩, -, hq⟩ := rm0 l s _ hw cz fm kv i0 i1 i2 i3 s.heap (ext_refl _) hCS hcz hFM hfm hAD hHI hLO hNB hkv p e ha hc hk s m _ below hf ((Spec.applies_iff_loose hf).mp happ).1 ⟨rfl, State.Warmed39.refl s, rfl, hCH, fun _ q => nomatch q⟩ trivial
  refine ⟨n, _, h1, h2, h3, hpost _ _ _ _ _ _ ⟨Cond.after_iff.mpr rfl, Cond.after_iff.mpr (eq_i res_at (Term.int_eval (1)) rfl), trivial⟩ ⟨hq.1, hq.2.1, hq.2.2.1, (hq.2.2.2.sift fun y hy => Or.inr (N y hy)).mono (by decide) (by decide)⟩⟩
theorem main_1_1 : Claimed_1_1 := comes_1 fun _ _ _ _ _ _ h hF => ⟨h.1, hF⟩
theorem main_1_2 : Claimed_1_2 := comes_1 fun _ _ _ _ _ _ h hF => ⟨h.2.1, hF⟩
end Jvm.Pilot.@@N@@
namespace Jvm.Pilot.@@N@@
open Jvm Jvm.ClassFile Sem Op Lib Jvm.Free Jvm.Stand Jvm.Pilot.@@N@@.Jvm.D
/-! MADE BY PROGRAM (witnessworld.py) out of the Statement's table words and the real class files: 23 classes; the members and pool entries that the words name. The judged class is class 1, her method 1. -/
namespace start1
open Jvm.ClassFile
def u (s : String) : CpInfo := .utf8 (stringToUtf16 s)
/-- a pool by its gaps: so many unusable entries, then the entry; so many at the end -/
def gap : Nat → List CpInfo → List CpInfo
  | 0, r => r
  | n + 1, r => .unusable :: gap n r
def poolList (es : List (Nat × CpInfo)) (last : Nat) : List CpInfo := es.foldr (fun e r => gap e.1 (e.2 :: r)) (gap last [])
def pool (es : List (Nat × CpInfo)) (last : Nat) : Array CpInfo := ⟨poolList es last⟩
def fileOf (pool : Array CpInfo) (this : Nat) (attrs : Array Attribute := #[]) (ms : Array MethodInfo := #[]) (fl : Nat := 33) (sup : Nat := 0) (ifs : Array Nat := #[]) (fds : Array FieldInfo := #[]) : ClassFile where
  minorVersion := 0
  majorVersion := 65
  constantPool := pool
  accessFlags := fl
  thisClass := this
  superClass := sup
  interfaces := ifs
  fields := fds
  methods := ms
  attributes := attrs
def plain (name : String) (sup : Option ClassId) : Class where
  name := name
  kind := .ordinary
  loader := none
  accessFlags := 33
  super := sup
  interfaces := #[]
  cf := none
  fields := #[]
  methods := #[]
  instanceTypes := #[]
  staticTypes := #[]
  resolved := #[]
  callSites := []
  init := .initialized
  statics := none
  mirror := none

def pool0 : Array CpInfo := pool [(5, u "<init>"), (0, u "()V"), (1, .class_ 10), (1, u "java/lang/Object")] 113

def k0c0 : Code := { maxStack := 0, maxLocals := 1, code := object_method_1_code, exceptionTable := #[], attributes := #[] }
def k0m0 : Method := { name := "<init>", desc := "()V", sig := { parameters := [], returnType := none }, accessFlags := 1, code := some k0c0 }
/-- java/lang/Object -/
def k0 : Class := { plain "java/lang/Object" none with
  accessFlags := 33
  interfaces := #[]
  cf := some (fileOf pool0 8 #[] #[{ accessFlags := 1, nameIndex := 5, descriptorIndex := 6, attributes := #[] }] 33 0 #[] #[])
  fields := #[]
  methods := #[k0m0]
  instanceTypes := #[]
  staticTypes := #[]
  resolved := Array.replicate 124 none
  statics := none }

def pool1 : Array CpInfo := pool [(2, .class_ 4), (1, u "java/lang/Object"), (0, u "<init>"), (0, u "()V"), (0, .integer 65535), (0, .class_ 9), (0, u "java/lang/String"), (0, .methodref 8 11), (0, .nameAndType 5 12), (0, u "([C)V"), (0, .methodref 14 15), (0, .class_ 16), (0, .nameAndType 17 18), (0, u "com/example/nuntius/nuntius/http/ParameterValue"), (0, u "of"), (0, u "(Ljava/lang/String;)Lcom/example/nuntius/nuntius/http/ParameterValue;"), (0, .methodref 14 20), (0, .nameAndType 21 22), (0, u "kind"), (0, u "()Lcom/example/nuntius/nuntius/http/ParameterValue$Kind;"), (0, .fieldref 24 25), (0, .class_ 26), (0, .nameAndType 27 28), (0, u "com/example/nuntius/nuntius/http/ParameterValue$Kind"), (0, u "TEXT"), (0, u "Lcom/example/nuntius/nuntius/http/ParameterValue$Kind;"), (0, .methodref 14 30), (0, .nameAndType 31 32), (0, u "text"), (0, u "()Ljava/lang/String;"), (0, .methodref 8 34), (0, .nameAndType 35 36), (0, u "length"), (0, u "()I"), (0, .methodref 8 38), (0, .nameAndType 39 40), (0, u "charAt"), (0, u "(I)C"), (0, .class_ 42), (0, u "com/example/nuntius/nuntius/http/ParameterValueOfPinLaw"), (2, u "law"), (0, u "(IIII)Z")] 7

def k1m0 : Method := { name := "<init>", desc := "()V", sig := { parameters := [], returnType := none }, accessFlags := 1, code := none }
def k1c1 : Code := { maxStack := 4, maxLocals := 9, code := code, exceptionTable := #[], attributes := #[] }
def k1m1 : Method := { name := "law", desc := "(IIII)Z", sig := { parameters := [.int, .int, .int, .int], returnType := some .boolean }, accessFlags := 9, code := some k1c1 }
/-- com/example/nuntius/nuntius/http/ParameterValueOfPinLaw -/
def k1 : Class := { plain "com/example/nuntius/nuntius/http/ParameterValueOfPinLaw" (some 0) with
  accessFlags := 49
  interfaces := #[]
  cf := some (fileOf pool1 41 #[] #[{ accessFlags := 1, nameIndex := 5, descriptorIndex := 6, attributes := #[] }, { accessFlags := 9, nameIndex := 45, descriptorIndex := 46, attributes := #[] }] 49 2 #[] #[])
  fields := #[]
  methods := #[k1m0, k1m1]
  instanceTypes := #[]
  staticTypes := #[]
  resolved := Array.replicate 54 none
  statics := none }

def pool2 : Array CpInfo := pool [(1, .class_ 2), (0, u "java/io/Serializable"), (0, .class_ 4), (0, u "java/lang/Object")] 2

/-- java/io/Serializable -/
def k2 : Class := { plain "java/io/Serializable" (some 0) with
  accessFlags := 1537
  interfaces := #[]
  cf := some (fileOf pool2 1 #[] #[] 1537 3 #[] #[])
  fields := #[]
  methods := #[]
  instanceTypes := #[]
  staticTypes := #[]
  resolved := Array.replicate 7 none
  statics := none }

def pool3 : Array CpInfo := pool [(1, .class_ 2), (0, u "java/lang/Comparable"), (0, .class_ 4), (0, u "java/lang/Object")] 7

/-- java/lang/Comparable -/
def k3 : Class := { plain "java/lang/Comparable" (some 0) with
  accessFlags := 1537
  interfaces := #[]
  cf := some (fileOf pool3 1 #[] #[] 1537 3 #[] #[])
  fields := #[]
  methods := #[]
  instanceTypes := #[]
  staticTypes := #[]
  resolved := Array.replicate 12 none
  statics := none }

def pool4 : Array CpInfo := pool [(2, .class_ 4), (1, u "java/lang/CharSequence"), (42, .class_ 48), (0, u "java/lang/CharSequence$1CodePointIterator"), (10, .class_ 60), (0, u "java/lang/CharSequence$1CharIterator"), (5, .class_ 67), (0, u "java/lang/Object")] 63

/-- java/lang/CharSequence -/
def k4 : Class := { plain "java/lang/CharSequence" (some 0) with
  accessFlags := 1537
  interfaces := #[]
  cf := some (fileOf pool4 2 #[.nestMembers #[47, 59]] #[] 1537 66 #[] #[])
  fields := #[]
  methods := #[]
  instanceTypes := #[]
  staticTypes := #[]
  resolved := Array.replicate 131 none
  statics := none }

def pool5 : Array CpInfo := pool [(1, .class_ 2), (0, u "java/lang/constant/Constable"), (0, .class_ 4), (0, u "java/lang/Object")] 6

/-- java/lang/constant/Constable -/
def k5 : Class := { plain "java/lang/constant/Constable" (some 0) with
  accessFlags := 1537
  interfaces := #[]
  cf := some (fileOf pool5 1 #[] #[] 1537 3 #[] #[])
  fields := #[]
  methods := #[]
  instanceTypes := #[]
  staticTypes := #[]
  resolved := Array.replicate 11 none
  statics := none }

def pool6 : Array CpInfo := pool [(1, .class_ 2), (0, u "java/lang/constant/ConstantDesc"), (0, .class_ 4), (0, u "java/lang/Object")] 32

/-- java/lang/constant/ConstantDesc -/
def k6 : Class := { plain "java/lang/constant/ConstantDesc" (some 0) with
  accessFlags := 1537
  interfaces := #[]
  cf := some (fileOf pool6 1 #[] #[] 1537 3 #[] #[])
  fields := #[]
  methods := #[]
  instanceTypes := #[]
  staticTypes := #[]
  resolved := Array.replicate 37 none
  statics := none }

def pool7 : Array CpInfo := pool [(1, .methodref 2 3), (0, .class_ 4), (0, .nameAndType 5 6), (0, u "java/lang/Object"), (0, u "<init>"), (0, u "()V"), (0, .string 8), (0, u ""), (0, .fieldref 10 11), (0, .class_ 12), (0, .nameAndType 13 14), (0, u "java/lang/String"), (0, u "value"), (0, u "[B"), (0, .fieldref 10 16), (0, .nameAndType 17 18), (0, u "coder"), (0, u "B"), (2, u "hash"), (0, u "I"), (2, u "hashIsZero"), (0, u "Z"), (0, .methodref 10 28), (0, .nameAndType 5 29), (0, u "([CIILjava/lang/Void;)V"), (8, .fieldref 10 39), (0, .nameAndType 40 26), (0, u "COMPACT_STRINGS"), (1, .class_ 44), (1, u "java/lang/StringUTF16"), (0, u "compress"), (1, .methodref 42 48), (0, .nameAndType 49 50), (0, u "coderFromArrayLen"), (0, u "([BI)B"), (56, .class_ 109), (1, u "java/lang/StringLatin1"), (32, u "()Z"), (34, .methodref 42 178), (0, .nameAndType 45 179), (0, u "([CII)[B"), (154, u "()I"), (0, .methodref 10 336), (0, .nameAndType 17 337), (0, u "()B"), (25, u "([BI)C"), (27, u "(II)V"), (35, u "(I)C"), (64, .methodref 10 493), (0, .nameAndType 494 142), (0, u "isLatin1"), (0, .methodref 107 496), (0, .nameAndType 497 363), (0, u "charAt"), (0, .methodref 42 496), (2, u "checkIndex"), (5, u "length"), (67, .class_ 576), (0, u "java/lang/CharSequence"), (22, u "CASE_INSENSITIVE_ORDER"), (0, u "Ljava/util/Comparator;"), (409, u "([C)V"), (42, .fieldref 1054 1055), (0, .class_ 1056), (0, .nameAndType 1057 1058), (0, u "jdk/internal/util/Preconditions"), (0, u "SIOOBE_FORMATTER"), (0, u "Ljava/util/function/BiFunction;"), (0, .methodref 1054 1060), (0, .nameAndType 501 1061), (0, u "(IILjava/util/function/BiFunction;)I"), (39, u "serialPersistentFields"), (0, u "[Ljava/io/ObjectStreamField;"), (0, .class_ 1104), (0, u "java/lang/String$CaseInsensitiveComparator"), (1, .class_ 1107), (0, u "java/io/Serializable"), (0, .class_ 1109), (0, u "java/lang/Comparable"), (0, .class_ 1111), (0, u "java/lang/constant/Constable"), (0, .class_ 1113), (0, u "java/lang/constant/ConstantDesc"), (2, u "serialVersionUID"), (0, u "J"), (3, u "REPL"), (0, u "C"), (2, u "LATIN1"), (1, u "UTF16")] 323

def k7m0 : Method := { name := "<init>", desc := "()V", sig := { parameters := [], returnType := none }, accessFlags := 1, code := none }
def k7c1 : Code := { maxStack := 5, maxLocals := 2, code := jdk_42_method_3_code, exceptionTable := #[], attributes := #[] }
def k7m1 : Method := { name := "<init>", desc := "([C)V", sig := { parameters := [(.array .char)], returnType := none }, accessFlags := 1, code := some k7c1 }
def k7c2 : Code := { maxStack := 2, maxLocals := 1, code := jdk_42_method_54_code, exceptionTable := #[], attributes := #[] }
def k7m2 : Method := { name := "length", desc := "()I", sig := { parameters := [], returnType := some .int }, accessFlags := 1, code := some k7c2 }
def k7c3 : Code := { maxStack := 2, maxLocals := 2, code := jdk_42_method_56_code, exceptionTable := #[], attributes := #[] }
def k7m3 : Method := { name := "charAt", desc := "(I)C", sig := { parameters := [.int], returnType := some .char }, accessFlags := 1, code := some k7c3 }
def k7c4 : Code := { maxStack := 4, maxLocals := 6, code := jdk_42_method_149_code, exceptionTable := #[], attributes := #[] }
def k7m4 : Method := { name := "<init>", desc := "([CIILjava/lang/Void;)V", sig := { parameters := [(.array .char), .int, .int, (.object "java/lang/Void")], returnType := none }, accessFlags := 2, code := some k7c4 }
def k7c5 : Code := { maxStack := 1, maxLocals := 1, code := jdk_42_method_152_code, exceptionTable := #[], attributes := #[] }
def k7m5 : Method := { name := "coder", desc := "()B", sig := { parameters := [], returnType := some .byte }, accessFlags := 0, code := some k7c5 }
def k7c6 : Code := { maxStack := 1, maxLocals := 1, code := jdk_42_method_154_code, exceptionTable := #[], attributes := #[] }
def k7m6 : Method := { name := "isLatin1", desc := "()Z", sig := { parameters := [], returnType := some .boolean }, accessFlags := 0, code := some k7c6 }
def k7c7 : Code := { maxStack := 3, maxLocals := 2, code := jdk_42_method_155_code, exceptionTable := #[], attributes := #[] }
def k7m7 : Method := { name := "checkIndex", desc := "(II)V", sig := { parameters := [.int, .int], returnType := none }, accessFlags := 8, code := some k7c7 }
/-- java/lang/String -/
def k7 : Class := { plain "java/lang/String" (some 0) with
  accessFlags := 49
  interfaces := #[2, 3, 4, 5, 6]
  cf := some (fileOf pool7 10 #[.nestMembers #[1103]] #[{ accessFlags := 1, nameIndex := 5, descriptorIndex := 6, attributes := #[] }, { accessFlags := 1, nameIndex := 5, descriptorIndex := 1010, attributes := #[] }, { accessFlags := 1, nameIndex := 507, descriptorIndex := 334, attributes := #[] }, { accessFlags := 1, nameIndex := 497, descriptorIndex := 427, attributes := #[] }, { accessFlags := 2, nameIndex := 5, descriptorIndex := 29, attributes := #[] }, { accessFlags := 0, nameIndex := 17, descriptorIndex := 337, attributes := #[] }, { accessFlags := 0, nameIndex := 494, descriptorIndex := 142, attributes := #[] }, { accessFlags := 8, nameIndex := 501, descriptorIndex := 391, attributes := #[] }] 49 2 #[1106, 1108, 575, 1110, 1112] #[{ accessFlags := 18, nameIndex := 13, descriptorIndex := 14, attributes := #[] }, { accessFlags := 18, nameIndex := 17, descriptorIndex := 18, attributes := #[] }, { accessFlags := 2, nameIndex := 21, descriptorIndex := 22, attributes := #[] }, { accessFlags := 2, nameIndex := 25, descriptorIndex := 26, attributes := #[] }, { accessFlags := 26, nameIndex := 1116, descriptorIndex := 1117, attributes := #[] }, { accessFlags := 24, nameIndex := 40, descriptorIndex := 26, attributes := #[] }, { accessFlags := 26, nameIndex := 1101, descriptorIndex := 1102, attributes := #[] }, { accessFlags := 26, nameIndex := 1121, descriptorIndex := 1122, attributes := #[] }, { accessFlags := 25, nameIndex := 599, descriptorIndex := 600, attributes := #[] }, { accessFlags := 24, nameIndex := 1125, descriptorIndex := 18, attributes := #[] }, { accessFlags := 24, nameIndex := 1127, descriptorIndex := 18, attributes := #[] }])
  fields := #[{ name := "value", type := (.array .byte), accessFlags := 18, slot := 0, constantValue := 0 }, { name := "coder", type := .byte, accessFlags := 18, slot := 1, constantValue := 0 }, { name := "hash", type := .int, accessFlags := 2, slot := 2, constantValue := 0 }, { name := "hashIsZero", type := .boolean, accessFlags := 2, slot := 3, constantValue := 0 }, { name := "serialVersionUID", type := .long, accessFlags := 26, slot := 0, constantValue := 0 }, { name := "COMPACT_STRINGS", type := .boolean, accessFlags := 24, slot := 1, constantValue := 0 }, { name := "serialPersistentFields", type := (.array (.object "java/io/ObjectStreamField")), accessFlags := 26, slot := 2, constantValue := 0 }, { name := "REPL", type := .char, accessFlags := 26, slot := 3, constantValue := 0 }, { name := "CASE_INSENSITIVE_ORDER", type := (.object "java/util/Comparator"), accessFlags := 25, slot := 4, constantValue := 0 }, { name := "LATIN1", type := .byte, accessFlags := 24, slot := 5, constantValue := 0 }, { name := "UTF16", type := .byte, accessFlags := 24, slot := 6, constantValue := 0 }]
  methods := #[k7m0, k7m1, k7m2, k7m3, k7m4, k7m5, k7m6, k7m7]
  instanceTypes := #[(.array .byte), .byte, .int, .boolean]
  staticTypes := #[.long, .boolean, (.array (.object "java/io/ObjectStreamField")), .char, (.object "java/util/Comparator"), .byte, .byte]
  resolved := Array.replicate 1451 none
  statics := some 0 }

def pool8 : Array CpInfo := pool [(1, .methodref 2 3), (0, .class_ 4), (0, .nameAndType 5 6), (0, u "java/lang/Object"), (0, u "<init>"), (0, u "()V"), (0, .class_ 8), (0, u "java/lang/Record")] 13

def k8c0 : Code := { maxStack := 1, maxLocals := 1, code := jdk_30_method_1_code, exceptionTable := #[], attributes := #[] }
def k8m0 : Method := { name := "<init>", desc := "()V", sig := { parameters := [], returnType := none }, accessFlags := 4, code := some k8c0 }
/-- java/lang/Record -/
def k8 : Class := { plain "java/lang/Record" (some 0) with
  accessFlags := 1057
  interfaces := #[]
  cf := some (fileOf pool8 7 #[] #[{ accessFlags := 4, nameIndex := 5, descriptorIndex := 6, attributes := #[] }] 1057 2 #[] #[])
  fields := #[]
  methods := #[k8m0]
  instanceTypes := #[]
  staticTypes := #[]
  resolved := Array.replicate 22 none
  statics := none }

def pool9 : Array CpInfo := pool [(1, .methodref 2 3), (0, .class_ 4), (0, .nameAndType 5 6), (0, u "java/lang/Record"), (0, u "<init>"), (0, u "()V"), (0, .fieldref 8 9), (0, .class_ 10), (0, .nameAndType 11 12), (0, u "com/example/nuntius/nuntius/http/ParameterValue"), (0, u "kind"), (0, u "Lcom/example/nuntius/nuntius/http/ParameterValue$Kind;"), (0, .fieldref 8 14), (0, .nameAndType 15 16), (0, u "text"), (0, u "Ljava/lang/String;"), (0, .fieldref 18 19), (0, .class_ 20), (0, .nameAndType 21 12), (0, u "com/example/nuntius/nuntius/http/ParameterValue$Kind"), (0, u "TEXT"), (0, .methodref 8 23), (0, .nameAndType 5 24), (0, u "(Lcom/example/nuntius/nuntius/http/ParameterValue$Kind;Ljava/lang/String;)V"), (17, u "NO_TEXT"), (4, u "Lcom/example/nuntius/nuntius/http/ParameterValue;"), (3, u "of"), (0, u "(Ljava/lang/String;)Lcom/example/nuntius/nuntius/http/ParameterValue;"), (1, u "()Ljava/lang/String;"), (2, u "()Lcom/example/nuntius/nuntius/http/ParameterValue$Kind;")] 24

def k9c0 : Code := { maxStack := 2, maxLocals := 3, code := prog_15_method_1_code, exceptionTable := #[], attributes := #[] }
def k9m0 : Method := { name := "<init>", desc := "(Lcom/example/nuntius/nuntius/http/ParameterValue$Kind;Ljava/lang/String;)V", sig := { parameters := [(.object "com/example/nuntius/nuntius/http/ParameterValue$Kind"), (.object "java/lang/String")], returnType := none }, accessFlags := 1, code := some k9c0 }
def k9c1 : Code := { maxStack := 4, maxLocals := 1, code := prog_15_method_2_code, exceptionTable := #[], attributes := #[] }
def k9m1 : Method := { name := "of", desc := "(Ljava/lang/String;)Lcom/example/nuntius/nuntius/http/ParameterValue;", sig := { parameters := [(.object "java/lang/String")], returnType := some (.object "com/example/nuntius/nuntius/http/ParameterValue") }, accessFlags := 9, code := some k9c1 }
def k9c2 : Code := { maxStack := 1, maxLocals := 1, code := prog_15_method_7_code, exceptionTable := #[], attributes := #[] }
def k9m2 : Method := { name := "kind", desc := "()Lcom/example/nuntius/nuntius/http/ParameterValue$Kind;", sig := { parameters := [], returnType := some (.object "com/example/nuntius/nuntius/http/ParameterValue$Kind") }, accessFlags := 1, code := some k9c2 }
def k9c3 : Code := { maxStack := 1, maxLocals := 1, code := prog_15_method_8_code, exceptionTable := #[], attributes := #[] }
def k9m3 : Method := { name := "text", desc := "()Ljava/lang/String;", sig := { parameters := [], returnType := some (.object "java/lang/String") }, accessFlags := 1, code := some k9c3 }
/-- com/example/nuntius/nuntius/http/ParameterValue -/
def k9 : Class := { plain "com/example/nuntius/nuntius/http/ParameterValue" (some 8) with
  accessFlags := 49
  interfaces := #[]
  cf := some (fileOf pool9 8 #[.nestMembers #[18]] #[{ accessFlags := 1, nameIndex := 5, descriptorIndex := 24, attributes := #[] }, { accessFlags := 9, nameIndex := 51, descriptorIndex := 52, attributes := #[] }, { accessFlags := 1, nameIndex := 11, descriptorIndex := 57, attributes := #[] }, { accessFlags := 1, nameIndex := 15, descriptorIndex := 54, attributes := #[] }] 49 2 #[] #[{ accessFlags := 18, nameIndex := 11, descriptorIndex := 12, attributes := #[] }, { accessFlags := 18, nameIndex := 15, descriptorIndex := 16, attributes := #[] }, { accessFlags := 25, nameIndex := 42, descriptorIndex := 47, attributes := #[] }])
  fields := #[{ name := "kind", type := (.object "com/example/nuntius/nuntius/http/ParameterValue$Kind"), accessFlags := 18, slot := 0, constantValue := 0 }, { name := "text", type := (.object "java/lang/String"), accessFlags := 18, slot := 1, constantValue := 0 }, { name := "NO_TEXT", type := (.object "com/example/nuntius/nuntius/http/ParameterValue"), accessFlags := 25, slot := 0, constantValue := 0 }]
  methods := #[k9m0, k9m1, k9m2, k9m3]
  instanceTypes := #[(.object "com/example/nuntius/nuntius/http/ParameterValue$Kind"), (.object "java/lang/String")]
  staticTypes := #[(.object "com/example/nuntius/nuntius/http/ParameterValue")]
  resolved := Array.replicate 82 none
  statics := none }

def pool10 : Array CpInfo := pool [(2, .class_ 4), (1, u "java/lang/Enum"), (0, u "name"), (0, u "Ljava/lang/String;"), (2, u "ordinal"), (0, u "I"), (1, .class_ 14), (1, u "java/lang/Object"), (4, u "hash"), (86, .class_ 108), (1, u "java/lang/Enum$EnumDesc"), (2, .class_ 112), (0, u "java/lang/constant/Constable"), (0, .class_ 114), (0, u "java/lang/Comparable"), (0, .class_ 116), (0, u "java/io/Serializable")] 87

/-- java/lang/Enum -/
def k10 : Class := { plain "java/lang/Enum" (some 0) with
  accessFlags := 1057
  interfaces := #[5, 3, 2]
  cf := some (fileOf pool10 2 #[.nestMembers #[106]] #[] 1057 12 #[111, 113, 115] #[{ accessFlags := 18, nameIndex := 5, descriptorIndex := 6, attributes := #[] }, { accessFlags := 18, nameIndex := 9, descriptorIndex := 10, attributes := #[] }, { accessFlags := 2, nameIndex := 19, descriptorIndex := 10, attributes := #[] }])
  fields := #[{ name := "name", type := (.object "java/lang/String"), accessFlags := 18, slot := 0, constantValue := 0 }, { name := "ordinal", type := .int, accessFlags := 18, slot := 1, constantValue := 0 }, { name := "hash", type := .int, accessFlags := 2, slot := 2, constantValue := 0 }]
  methods := #[]
  instanceTypes := #[(.object "java/lang/String"), .int, .int]
  staticTypes := #[]
  resolved := Array.replicate 204 none
  statics := none }

def pool11 : Array CpInfo := pool [(1, .class_ 2), (0, u "com/example/nuntius/nuntius/http/ParameterValue$Kind"), (2, u "TEXT"), (0, u "Lcom/example/nuntius/nuntius/http/ParameterValue$Kind;"), (2, u "NUMBER"), (2, u "NO_TEXT"), (2, u "$VALUES"), (0, u "[Lcom/example/nuntius/nuntius/http/ParameterValue$Kind;"), (6, .class_ 25), (1, u "java/lang/Enum"), (26, .class_ 53), (0, u "com/example/nuntius/nuntius/http/ParameterValue")] 2

/-- com/example/nuntius/nuntius/http/ParameterValue$Kind -/
def k11 : Class := { plain "com/example/nuntius/nuntius/http/ParameterValue$Kind" (some 10) with
  accessFlags := 16433
  interfaces := #[]
  cf := some (fileOf pool11 1 #[.nestHost 52] #[] 16433 23 #[] #[{ accessFlags := 16409, nameIndex := 5, descriptorIndex := 6, attributes := #[] }, { accessFlags := 16409, nameIndex := 9, descriptorIndex := 6, attributes := #[] }, { accessFlags := 16409, nameIndex := 12, descriptorIndex := 6, attributes := #[] }, { accessFlags := 4122, nameIndex := 15, descriptorIndex := 16, attributes := #[] }])
  fields := #[{ name := "TEXT", type := (.object "com/example/nuntius/nuntius/http/ParameterValue$Kind"), accessFlags := 16409, slot := 0, constantValue := 0 }, { name := "NUMBER", type := (.object "com/example/nuntius/nuntius/http/ParameterValue$Kind"), accessFlags := 16409, slot := 1, constantValue := 0 }, { name := "NO_TEXT", type := (.object "com/example/nuntius/nuntius/http/ParameterValue$Kind"), accessFlags := 16409, slot := 2, constantValue := 0 }, { name := "$VALUES", type := (.array (.object "com/example/nuntius/nuntius/http/ParameterValue$Kind")), accessFlags := 4122, slot := 3, constantValue := 0 }]
  methods := #[]
  instanceTypes := #[(.object "java/lang/String"), .int, .int]
  staticTypes := #[(.object "com/example/nuntius/nuntius/http/ParameterValue$Kind"), (.object "com/example/nuntius/nuntius/http/ParameterValue$Kind"), (.object "com/example/nuntius/nuntius/http/ParameterValue$Kind"), (.array (.object "com/example/nuntius/nuntius/http/ParameterValue$Kind"))]
  resolved := Array.replicate 56 none
  statics := some 1 }

def pool12 : Array CpInfo := pool [(3, .class_ 4), (0, u "java/lang/String"), (1, .class_ 8), (1, u "java/lang/Object"), (0, u "<init>"), (0, u "()V"), (0, .methodref 12 13), (0, .class_ 14), (0, .nameAndType 15 16), (0, u "java/lang/StringUTF16"), (0, u "newBytesLength"), (0, u "(I)I"), (3, .integer 1073741823), (23, .fieldref 12 45), (0, .nameAndType 46 47), (0, u "$assertionsDisabled"), (0, u "Z"), (0, .methodref 12 49), (0, .nameAndType 50 51), (0, u "length"), (0, u "([B)I"), (7, .fieldref 12 60), (0, .nameAndType 61 62), (0, u "HI_BYTE_SHIFT"), (0, u "I"), (0, .fieldref 12 64), (0, .nameAndType 65 62), (0, u "LO_BYTE_SHIFT"), (1, .methodref 12 68), (0, .nameAndType 69 70), (0, u "checkIndex"), (0, u "(I[B)V"), (0, .methodref 12 72), (0, .nameAndType 73 74), (0, u "getChar"), (0, u "([BI)C"), (32, .methodref 12 108), (0, .nameAndType 109 110), (0, u "newBytesFor"), (0, u "(I)[B"), (0, .methodref 12 112), (0, .nameAndType 113 114), (0, u "putChar"), (0, u "([BII)V"), (0, .methodref 12 116), (0, .nameAndType 117 118), (0, u "compress"), (0, u "([CI[BII)I"), (0, .methodref 12 120), (0, .nameAndType 121 122), (0, u "toBytes"), (0, u "([CII)[B"), (138, u "coderFromArrayLen"), (0, u "([BI)B"), (106, .class_ 371), (1, u "java/lang/StringUTF16$LinesSpliterator"), (20, u "charAt"), (21, .methodref 3 415), (0, .nameAndType 69 416), (0, u "(II)V"), (13, u "MAX_LENGTH"), (196, .class_ 628), (0, u "java/lang/StringUTF16$CodePointsSpliterator"), (0, .class_ 630), (0, u "java/lang/StringUTF16$CharsSpliterator")] 4

def k12m0 : Method := { name := "<init>", desc := "()V", sig := { parameters := [], returnType := none }, accessFlags := 0, code := none }
def k12c1 : Code := { maxStack := 1, maxLocals := 1, code := jdk_52_method_2_code, exceptionTable := #[], attributes := #[] }
def k12m1 : Method := { name := "newBytesFor", desc := "(I)[B", sig := { parameters := [.int], returnType := some (.array .byte) }, accessFlags := 9, code := some k12c1 }
def k12c2 : Code := { maxStack := 4, maxLocals := 1, code := jdk_52_method_3_code, exceptionTable := #[], attributes := #[] }
def k12m2 : Method := { name := "newBytesLength", desc := "(I)I", sig := { parameters := [.int], returnType := some .int }, accessFlags := 9, code := some k12c2 }
def k12c3 : Code := { maxStack := 4, maxLocals := 3, code := jdk_52_method_4_code, exceptionTable := #[], attributes := #[] }
def k12m3 : Method := { name := "putChar", desc := "([BII)V", sig := { parameters := [(.array .byte), .int, .int], returnType := none }, accessFlags := 8, code := some k12c3 }
def k12c4 : Code := { maxStack := 3, maxLocals := 2, code := jdk_52_method_5_code, exceptionTable := #[], attributes := #[] }
def k12m4 : Method := { name := "getChar", desc := "([BI)C", sig := { parameters := [(.array .byte), .int], returnType := some .char }, accessFlags := 8, code := some k12c4 }
def k12c5 : Code := { maxStack := 2, maxLocals := 1, code := jdk_52_method_6_code, exceptionTable := #[], attributes := #[] }
def k12m5 : Method := { name := "length", desc := "([B)I", sig := { parameters := [(.array .byte)], returnType := some .int }, accessFlags := 9, code := some k12c5 }
def k12c6 : Code := { maxStack := 4, maxLocals := 5, code := jdk_52_method_14_code, exceptionTable := #[], attributes := #[] }
def k12m6 : Method := { name := "toBytes", desc := "([CII)[B", sig := { parameters := [(.array .char), .int, .int], returnType := some (.array .byte) }, accessFlags := 9, code := some k12c6 }
def k12c7 : Code := { maxStack := 2, maxLocals := 2, code := jdk_52_method_15_code, exceptionTable := #[], attributes := #[] }
def k12m7 : Method := { name := "coderFromArrayLen", desc := "([BI)B", sig := { parameters := [(.array .byte), .int], returnType := some .byte }, accessFlags := 8, code := some k12c7 }
def k12c8 : Code := { maxStack := 5, maxLocals := 6, code := jdk_52_method_16_code, exceptionTable := #[], attributes := #[] }
def k12m8 : Method := { name := "compress", desc := "([CII)[B", sig := { parameters := [(.array .char), .int, .int], returnType := some (.array .byte) }, accessFlags := 9, code := some k12c8 }
def k12c9 : Code := { maxStack := 3, maxLocals := 7, code := jdk_52_method_21_code, exceptionTable := #[], attributes := #[] }
def k12m9 : Method := { name := "compress", desc := "([CI[BII)I", sig := { parameters := [(.array .char), .int, (.array .byte), .int, .int], returnType := some .int }, accessFlags := 9, code := some k12c9 }
def k12c10 : Code := { maxStack := 2, maxLocals := 2, code := jdk_52_method_83_code, exceptionTable := #[], attributes := #[] }
def k12m10 : Method := { name := "charAt", desc := "([BI)C", sig := { parameters := [(.array .byte), .int], returnType := some .char }, accessFlags := 9, code := some k12c10 }
def k12c11 : Code := { maxStack := 2, maxLocals := 2, code := jdk_52_method_91_code, exceptionTable := #[], attributes := #[] }
def k12m11 : Method := { name := "checkIndex", desc := "(I[B)V", sig := { parameters := [.int, (.array .byte)], returnType := none }, accessFlags := 9, code := some k12c11 }
/-- java/lang/StringUTF16 -/
def k12 : Class := { plain "java/lang/StringUTF16" (some 0) with
  accessFlags := 48
  interfaces := #[]
  cf := some (fileOf pool12 12 #[.nestMembers #[627, 629, 369]] #[{ accessFlags := 0, nameIndex := 9, descriptorIndex := 10, attributes := #[] }, { accessFlags := 9, nameIndex := 109, descriptorIndex := 110, attributes := #[] }, { accessFlags := 9, nameIndex := 15, descriptorIndex := 16, attributes := #[] }, { accessFlags := 8, nameIndex := 113, descriptorIndex := 114, attributes := #[] }, { accessFlags := 8, nameIndex := 73, descriptorIndex := 74, attributes := #[] }, { accessFlags := 9, nameIndex := 50, descriptorIndex := 51, attributes := #[] }, { accessFlags := 9, nameIndex := 121, descriptorIndex := 122, attributes := #[] }, { accessFlags := 8, nameIndex := 261, descriptorIndex := 262, attributes := #[] }, { accessFlags := 9, nameIndex := 117, descriptorIndex := 122, attributes := #[] }, { accessFlags := 9, nameIndex := 117, descriptorIndex := 118, attributes := #[] }, { accessFlags := 9, nameIndex := 392, descriptorIndex := 74, attributes := #[] }, { accessFlags := 9, nameIndex := 69, descriptorIndex := 70, attributes := #[] }] 48 6 #[] #[{ accessFlags := 26, nameIndex := 61, descriptorIndex := 62, attributes := #[] }, { accessFlags := 26, nameIndex := 65, descriptorIndex := 62, attributes := #[] }, { accessFlags := 24, nameIndex := 430, descriptorIndex := 62, attributes := #[] }, { accessFlags := 4120, nameIndex := 46, descriptorIndex := 47, attributes := #[] }])
  fields := #[{ name := "HI_BYTE_SHIFT", type := .int, accessFlags := 26, slot := 0, constantValue := 0 }, { name := "LO_BYTE_SHIFT", type := .int, accessFlags := 26, slot := 1, constantValue := 0 }, { name := "MAX_LENGTH", type := .int, accessFlags := 24, slot := 2, constantValue := 0 }, { name := "$assertionsDisabled", type := .boolean, accessFlags := 4120, slot := 3, constantValue := 0 }]
  methods := #[k12m0, k12m1, k12m2, k12m3, k12m4, k12m5, k12m6, k12m7, k12m8, k12m9, k12m10, k12m11]
  instanceTypes := #[]
  staticTypes := #[.int, .int, .int, .boolean]
  resolved := Array.replicate 635 none
  statics := some 2 }

def pool13 : Array CpInfo := pool [(1, .class_ 2), (0, u "java/lang/String"), (1, .class_ 6), (1, u "java/lang/Object"), (0, u "<init>"), (0, u "()V"), (0, .methodref 1 10), (0, .nameAndType 11 12), (0, u "checkIndex"), (0, u "(II)V"), (1, .class_ 16), (1, u "java/lang/StringLatin1"), (36, u "([BI)C"), (67, u "$assertionsDisabled"), (0, u "Z"), (98, .class_ 223), (1, u "java/lang/StringLatin1$LinesSpliterator"), (28, u "charAt"), (137, .class_ 391), (0, u "java/lang/StringLatin1$CharsSpliterator")] 3

def k13m0 : Method := { name := "<init>", desc := "()V", sig := { parameters := [], returnType := none }, accessFlags := 0, code := none }
def k13c1 : Code := { maxStack := 2, maxLocals := 2, code := jdk_43_method_2_code, exceptionTable := #[], attributes := #[] }
def k13m1 : Method := { name := "charAt", desc := "([BI)C", sig := { parameters := [(.array .byte), .int], returnType := some .char }, accessFlags := 9, code := some k13c1 }
/-- java/lang/StringLatin1 -/
def k13 : Class := { plain "java/lang/StringLatin1" (some 0) with
  accessFlags := 48
  interfaces := #[]
  cf := some (fileOf pool13 14 #[.nestMembers #[390, 221]] #[{ accessFlags := 0, nameIndex := 7, descriptorIndex := 8, attributes := #[] }, { accessFlags := 9, nameIndex := 252, descriptorIndex := 53, attributes := #[] }] 48 4 #[] #[{ accessFlags := 4120, nameIndex := 121, descriptorIndex := 122, attributes := #[] }])
  fields := #[{ name := "$assertionsDisabled", type := .boolean, accessFlags := 4120, slot := 0, constantValue := 0 }]
  methods := #[k13m0, k13m1]
  instanceTypes := #[]
  staticTypes := #[.boolean]
  resolved := Array.replicate 395 none
  statics := none }

def pool14 : Array CpInfo := pool [(2, .class_ 4), (1, u "java/lang/Object"), (0, u "<init>"), (0, u "()V"), (17, .class_ 26), (1, u "jdk/internal/util/Preconditions"), (6, u "checkIndex"), (21, .class_ 56), (0, u "jdk/internal/util/Preconditions$4"), (57, .class_ 115), (0, u "jdk/internal/util/Preconditions$1"), (7, u "SIOOBE_FORMATTER"), (0, u "Ljava/util/function/BiFunction;"), (0, .class_ 126), (0, u "jdk/internal/util/Preconditions$2"), (3, u "AIOOBE_FORMATTER"), (0, .class_ 132), (0, u "jdk/internal/util/Preconditions$3"), (3, u "IOOBE_FORMATTER"), (41, u "(IILjava/util/function/BiFunction;)I")] 15

def k14m0 : Method := { name := "<init>", desc := "()V", sig := { parameters := [], returnType := none }, accessFlags := 1, code := none }
def k14c1 : Code := { maxStack := 3, maxLocals := 3, code := jdk_41_method_11_code, exceptionTable := #[], attributes := #[] }
def k14m1 : Method := { name := "checkIndex", desc := "(IILjava/util/function/BiFunction;)I", sig := { parameters := [.int, .int, (.object "java/util/function/BiFunction")], returnType := some .int }, accessFlags := 9, code := some k14c1 }
/-- jdk/internal/util/Preconditions -/
def k14 : Class := { plain "jdk/internal/util/Preconditions" (some 0) with
  accessFlags := 33
  interfaces := #[]
  cf := some (fileOf pool14 24 #[.nestMembers #[55, 131, 125, 114]] #[{ accessFlags := 1, nameIndex := 5, descriptorIndex := 6, attributes := #[] }, { accessFlags := 9, nameIndex := 33, descriptorIndex := 178, attributes := #[] }] 33 2 #[] #[{ accessFlags := 25, nameIndex := 123, descriptorIndex := 124, attributes := #[] }, { accessFlags := 25, nameIndex := 130, descriptorIndex := 124, attributes := #[] }, { accessFlags := 25, nameIndex := 136, descriptorIndex := 124, attributes := #[] }])
  fields := #[{ name := "SIOOBE_FORMATTER", type := (.object "java/util/function/BiFunction"), accessFlags := 25, slot := 0, constantValue := 0 }, { name := "AIOOBE_FORMATTER", type := (.object "java/util/function/BiFunction"), accessFlags := 25, slot := 1, constantValue := 0 }, { name := "IOOBE_FORMATTER", type := (.object "java/util/function/BiFunction"), accessFlags := 25, slot := 2, constantValue := 0 }]
  methods := #[k14m0, k14m1]
  instanceTypes := #[]
  staticTypes := #[(.object "java/util/function/BiFunction"), (.object "java/util/function/BiFunction"), (.object "java/util/function/BiFunction")]
  resolved := Array.replicate 194 none
  statics := some 3 }

def pool15 : Array CpInfo := pool [(9, u "<init>"), (6, .class_ 18), (1, u "java/lang/Object"), (0, u "()V"), (1, .class_ 23), (1, u "jdk/internal/util/ArraysSupport"), (0, u "LOG2_ARRAY_LONG_INDEX_SCALE"), (0, u "I"), (2, u "U"), (0, u "Ljdk/internal/misc/Unsafe;"), (8, u "BIG_ENDIAN"), (0, u "Z"), (8, u "LOG2_BYTE_BIT_SIZE"), (4, u "LOG2_ARRAY_INT_INDEX_SCALE"), (54, u "JLA"), (0, u "Ljdk/internal/access/JavaLangAccess;"), (11, u "LOG2_ARRAY_BOOLEAN_INDEX_SCALE"), (9, u "LOG2_ARRAY_BYTE_INDEX_SCALE"), (5, u "LOG2_ARRAY_CHAR_INDEX_SCALE"), (5, u "LOG2_ARRAY_SHORT_INDEX_SCALE"), (18, u "LOG2_ARRAY_FLOAT_INDEX_SCALE"), (24, u "LOG2_ARRAY_DOUBLE_INDEX_SCALE"), (89, u "T_BOOLEAN"), (2, u "T_CHAR"), (1, u "T_FLOAT"), (1, u "T_DOUBLE"), (1, u "T_BYTE"), (1, u "T_SHORT"), (1, u "T_INT"), (1, u "T_LONG"), (1, u "SOFT_MAX_ARRAY_LENGTH")] 83

def k15m0 : Method := { name := "<init>", desc := "()V", sig := { parameters := [], returnType := none }, accessFlags := 2, code := none }
/-- jdk/internal/util/ArraysSupport -/
def k15 : Class := { plain "jdk/internal/util/ArraysSupport" (some 0) with
  accessFlags := 33
  interfaces := #[]
  cf := some (fileOf pool15 21 #[] #[{ accessFlags := 2, nameIndex := 9, descriptorIndex := 19, attributes := #[] }] 33 16 #[] #[{ accessFlags := 24, nameIndex := 28, descriptorIndex := 29, attributes := #[] }, { accessFlags := 26, nameIndex := 38, descriptorIndex := 39, attributes := #[] }, { accessFlags := 25, nameIndex := 121, descriptorIndex := 25, attributes := #[] }, { accessFlags := 25, nameIndex := 131, descriptorIndex := 25, attributes := #[] }, { accessFlags := 25, nameIndex := 137, descriptorIndex := 25, attributes := #[] }, { accessFlags := 25, nameIndex := 143, descriptorIndex := 25, attributes := #[] }, { accessFlags := 25, nameIndex := 53, descriptorIndex := 25, attributes := #[] }, { accessFlags := 25, nameIndex := 24, descriptorIndex := 25, attributes := #[] }, { accessFlags := 25, nameIndex := 162, descriptorIndex := 25, attributes := #[] }, { accessFlags := 25, nameIndex := 187, descriptorIndex := 25, attributes := #[] }, { accessFlags := 26, nameIndex := 48, descriptorIndex := 25, attributes := #[] }, { accessFlags := 25, nameIndex := 277, descriptorIndex := 25, attributes := #[] }, { accessFlags := 25, nameIndex := 280, descriptorIndex := 25, attributes := #[] }, { accessFlags := 25, nameIndex := 282, descriptorIndex := 25, attributes := #[] }, { accessFlags := 25, nameIndex := 284, descriptorIndex := 25, attributes := #[] }, { accessFlags := 25, nameIndex := 286, descriptorIndex := 25, attributes := #[] }, { accessFlags := 25, nameIndex := 288, descriptorIndex := 25, attributes := #[] }, { accessFlags := 25, nameIndex := 290, descriptorIndex := 25, attributes := #[] }, { accessFlags := 25, nameIndex := 292, descriptorIndex := 25, attributes := #[] }, { accessFlags := 26, nameIndex := 108, descriptorIndex := 109, attributes := #[] }, { accessFlags := 25, nameIndex := 294, descriptorIndex := 25, attributes := #[] }])
  fields := #[{ name := "U", type := (.object "jdk/internal/misc/Unsafe"), accessFlags := 24, slot := 0, constantValue := 0 }, { name := "BIG_ENDIAN", type := .boolean, accessFlags := 26, slot := 1, constantValue := 0 }, { name := "LOG2_ARRAY_BOOLEAN_INDEX_SCALE", type := .int, accessFlags := 25, slot := 2, constantValue := 0 }, { name := "LOG2_ARRAY_BYTE_INDEX_SCALE", type := .int, accessFlags := 25, slot := 3, constantValue := 0 }, { name := "LOG2_ARRAY_CHAR_INDEX_SCALE", type := .int, accessFlags := 25, slot := 4, constantValue := 0 }, { name := "LOG2_ARRAY_SHORT_INDEX_SCALE", type := .int, accessFlags := 25, slot := 5, constantValue := 0 }, { name := "LOG2_ARRAY_INT_INDEX_SCALE", type := .int, accessFlags := 25, slot := 6, constantValue := 0 }, { name := "LOG2_ARRAY_LONG_INDEX_SCALE", type := .int, accessFlags := 25, slot := 7, constantValue := 0 }, { name := "LOG2_ARRAY_FLOAT_INDEX_SCALE", type := .int, accessFlags := 25, slot := 8, constantValue := 0 }, { name := "LOG2_ARRAY_DOUBLE_INDEX_SCALE", type := .int, accessFlags := 25, slot := 9, constantValue := 0 }, { name := "LOG2_BYTE_BIT_SIZE", type := .int, accessFlags := 26, slot := 10, constantValue := 0 }, { name := "T_BOOLEAN", type := .int, accessFlags := 25, slot := 11, constantValue := 0 }, { name := "T_CHAR", type := .int, accessFlags := 25, slot := 12, constantValue := 0 }, { name := "T_FLOAT", type := .int, accessFlags := 25, slot := 13, constantValue := 0 }, { name := "T_DOUBLE", type := .int, accessFlags := 25, slot := 14, constantValue := 0 }, { name := "T_BYTE", type := .int, accessFlags := 25, slot := 15, constantValue := 0 }, { name := "T_SHORT", type := .int, accessFlags := 25, slot := 16, constantValue := 0 }, { name := "T_INT", type := .int, accessFlags := 25, slot := 17, constantValue := 0 }, { name := "T_LONG", type := .int, accessFlags := 25, slot := 18, constantValue := 0 }, { name := "JLA", type := (.object "jdk/internal/access/JavaLangAccess"), accessFlags := 26, slot := 19, constantValue := 0 }, { name := "SOFT_MAX_ARRAY_LENGTH", type := .int, accessFlags := 25, slot := 20, constantValue := 0 }]
  methods := #[k15m0]
  instanceTypes := #[]
  staticTypes := #[(.object "jdk/internal/misc/Unsafe"), .boolean, .int, .int, .int, .int, .int, .int, .int, .int, .int, .int, .int, .int, .int, .int, .int, .int, .int, (.object "jdk/internal/access/JavaLangAccess"), .int]
  resolved := Array.replicate 378 none
  statics := none }

def pool16 : Array CpInfo := pool [(1, u "java/lang/Cloneable"), (0, .class_ 1), (0, u "java/lang/Object"), (0, .class_ 3)] 3

/-- java/lang/Cloneable -/
def k16 : Class := { plain "java/lang/Cloneable" (some 0) with
  accessFlags := 1537
  interfaces := #[]
  cf := some (fileOf pool16 2 #[] #[] 1537 4 #[] #[])
  fields := #[]
  methods := #[]
  instanceTypes := #[]
  staticTypes := #[]
  resolved := Array.replicate 8 none
  statics := none }

/-- the primitive byte -/
def k17 : Class := { plain "byte" none with kind := .primitive 'B', accessFlags := 0x411 }
/-- [B -/
def k18 : Class := { plain "[B" (some 0) with kind := .array 17 .byte, interfaces := #[16, 2], accessFlags := 1041 }

/-- the primitive char -/
def k19 : Class := { plain "char" none with kind := .primitive 'C', accessFlags := 0x411 }
/-- [C -/
def k20 : Class := { plain "[C" (some 0) with kind := .array 19 .char, interfaces := #[16, 2], accessFlags := 1041 }

/-- the primitive int -/
def k21 : Class := { plain "int" none with kind := .primitive 'I', accessFlags := 0x411 }
/-- [I -/
def k22 : Class := { plain "[I" (some 0) with kind := .array 21 .int, interfaces := #[16, 2], accessFlags := 1041 }

def heap : Heap := #[{ cls := 7, slots := #[.long 0, .int 1, .null, .int 0, .null, .int 0, .int 0], vm := .statics 7 },
  { cls := 11, slots := #[.ref 4, .null, .null, .null], vm := .statics 11 },
  { cls := 12, slots := #[.int 0, .int 8, .int 0, .int 1], vm := .statics 12 },
  { cls := 14, slots := #[.null, .null, .null], vm := .statics 14 },
  { cls := 11, slots := #[.null, .int 1, .int 0], vm := .none }]
def classes : Array Class := #[k0, k1, k2, k3, k4, k5, k6, k7, k8, k9, k10, k11, k12, k13, k14, k15, k16, k17, k18, k19, k20, k21, k22]
def interned : List (Array UInt16 × Addr) := []
def slotsUsed : Nat := 21
def theMethod : MethodId := ⟨1, 1⟩
def args0 : Array Value := #[.int 5, .int 5, .int 5, .int 5]
def aboutOver (below : List Frame) : State where
  vm := { classes := classes, interned := interned.toArray }
  heap := heap
  slotsUsed := slotsUsed
  threads := #[{ frames := .invoking theMethod args0 :: below }]
def below0 : List Frame := [.native { method := ⟨0, 0⟩, args := #[] }]
def about1 : State := aboutOver below0
def p0 : Program := .bare "" "" ""
def e0 : Env := launch0.env 0 0 0
theorem w_frames : about1.frames = Frame.invoking theMethod args0 :: below0 := rfl
set_option maxRecDepth 65536 in
theorem w_args : argsFit about1.vm theMethod args0 = true := by decide +kernel
set_option maxRecDepth 65536 in
theorem w_heap : heapFits about1 = true := by decide +kernel
set_option maxRecDepth 65536 in
theorem w_runnable : about1.curStatus? = some .runnable := by decide +kernel
set_option maxRecDepth 65536 in
theorem w_alone : about1.alone = true := by decide +kernel
set_option maxRecDepth 65536 in
theorem w_named : about1.methodNamed? x = some theMethod := by decide +kernel
set_option maxRecDepth 65536 in
theorem w_hears : about1.hears theMethod below0 = true := by decide +kernel
set_option maxRecDepth 65536 in
theorem w_ripe : about1.ripe theMethod args0 below0 = true := by decide +kernel
theorem w_running : about1.status = .running := rfl
set_option maxRecDepth 65536 in
theorem w_room : about1.hasRoom e0.platform room_1 = true :=
  launch0.hasRoom_least _ room_1 (by decide +kernel) (by decide +kernel) (by decide +kernel) (by decide +kernel) (by decide +kernel) (by decide +kernel)
theorem allAtoms_all (ts : List Jvm.Cond) (a : Array Jvm.Value) (st : Jvm.State) : (allAtoms ts).before a st = ts.all (fun c => c.before a st) := by
  induction ts with
  | nil => rfl
  | cons c t ih =>
    show (Jvm.Cond.and c (allAtoms t)).before a st = _
    rw [Jvm.Cond.before_and, ih, List.all_cons]
def words1 : List Jvm.Cond := Jvm.Cond.code x code maxLocals ret :: tables_1
/-- a 'code' word, met by the world's own term for the bytes: nothing is compared byte by byte -/
theorem code_word {y : MethodName} {bytes : ByteArray} {mx : Nat} {rt : Option FieldType} {a : Array Value} {s : State} {m : MethodId} {meth : Method} {c : Code} (h1 : s.methodNamed? y = some m) (h2 : s.vm.method? m = some meth) (h3 : meth.code = some c) (h4 : c.code = bytes)
    (h5 : (c.maxLocals == mx && c.exceptionTable.isEmpty && decide (c.maxStack ≤ mostOperands) && decide (meth.sig.returnType = rt) && !meth.locks && decide (parseMethodDescriptor y.desc = some meth.sig)) = true) : (Jvm.Cond.code y bytes mx rt).before a s = true := by
  simp only [Bool.and_eq_true, beq_iff_eq, Bool.not_eq_true', decide_eq_true_eq] at h5
  obtain ⟨⟨⟨⟨⟨g1, g2⟩, g3⟩, g4⟩, g5⟩, g6⟩ := h5
  simp [Cond.before, Cond.holds, Cond.value, h1, h2, h3, h4, g1, g2, g3, g4, g5, g6]
def isCode : Jvm.Cond → Bool
  | .code _ _ _ _ => true
  | _ => false
theorem all_split {L : List Jvm.Cond} {P : Jvm.Cond → Bool} (h1 : L.all (fun c => isCode c || P c) = true) (h2 : ∀ c ∈ L.filter isCode, P c = true) : L.all P = true := by
  refine List.all_eq_true.mpr fun c hc => ?_
  have h := List.all_eq_true.mp h1 c hc
  rcases Bool.eq_false_or_eq_true (isCode c) with hi | hi
  · exact h2 c (List.mem_filter.mpr ⟨hc, hi⟩)
  · simpa [hi] using h
set_option maxRecDepth 65536 in
theorem w_c0 : (Jvm.Cond.code x code maxLocals ret).before args0 about1 = true := code_word (m := ⟨1, 1⟩) (meth := k1m1) (c := k1c1) (by decide +kernel) rfl rfl rfl (by decide +kernel)
set_option maxRecDepth 65536 in
theorem w_c1 : (Jvm.Cond.code ({ cls := "java/lang/String", name := "<init>", desc := "([C)V" } : Jvm.MethodName) jdk_42_method_3_code (2 : Nat) (Option.none : Option Jvm.ClassFile.FieldType)).before args0 about1 = true := code_word (m := ⟨7, 1⟩) (meth := k7m1) (c := k7c1) (by decide +kernel) rfl rfl rfl (by decide +kernel)
set_option maxRecDepth 65536 in
theorem w_c2 : (Jvm.Cond.code ({ cls := "java/lang/String", name := "<init>", desc := "([CIILjava/lang/Void;)V" } : Jvm.MethodName) jdk_42_method_149_code (6 : Nat) (Option.none : Option Jvm.ClassFile.FieldType)).before args0 about1 = true := code_word (m := ⟨7, 4⟩) (meth := k7m4) (c := k7c4) (by decide +kernel) rfl rfl rfl (by decide +kernel)
set_option maxRecDepth 65536 in
theorem w_c3 : (Jvm.Cond.code ({ cls := "java/lang/Object", name := "<init>", desc := "()V" } : Jvm.MethodName) object_method_1_code (1 : Nat) (Option.none : Option Jvm.ClassFile.FieldType)).before args0 about1 = true := code_word (m := ⟨0, 0⟩) (meth := k0m0) (c := k0c0) (by decide +kernel) rfl rfl rfl (by decide +kernel)
set_option maxRecDepth 65536 in
theorem w_c4 : (Jvm.Cond.code ({ cls := "com/example/nuntius/nuntius/http/ParameterValue", name := "of", desc := "(Ljava/lang/String;)Lcom/example/nuntius/nuntius/http/ParameterValue;" } : Jvm.MethodName) prog_15_method_2_code (1 : Nat) (Option.some (Jvm.ClassFile.FieldType.object "com/example/nuntius/nuntius/http/ParameterValue"))).before args0 about1 = true := code_word (m := ⟨9, 1⟩) (meth := k9m1) (c := k9c1) (by decide +kernel) rfl rfl rfl (by decide +kernel)
set_option maxRecDepth 65536 in
theorem w_c5 : (Jvm.Cond.code ({ cls := "com/example/nuntius/nuntius/http/ParameterValue", name := "<init>", desc := "(Lcom/example/nuntius/nuntius/http/ParameterValue$Kind;Ljava/lang/String;)V" } : Jvm.MethodName) prog_15_method_1_code (3 : Nat) (Option.none : Option Jvm.ClassFile.FieldType)).before args0 about1 = true := code_word (m := ⟨9, 0⟩) (meth := k9m0) (c := k9c0) (by decide +kernel) rfl rfl rfl (by decide +kernel)
set_option maxRecDepth 65536 in
theorem w_c6 : (Jvm.Cond.code ({ cls := "java/lang/Record", name := "<init>", desc := "()V" } : Jvm.MethodName) jdk_30_method_1_code (1 : Nat) (Option.none : Option Jvm.ClassFile.FieldType)).before args0 about1 = true := code_word (m := ⟨8, 0⟩) (meth := k8m0) (c := k8c0) (by decide +kernel) rfl rfl rfl (by decide +kernel)
set_option maxRecDepth 65536 in
theorem w_c7 : (Jvm.Cond.code ({ cls := "com/example/nuntius/nuntius/http/ParameterValue", name := "kind", desc := "()Lcom/example/nuntius/nuntius/http/ParameterValue$Kind;" } : Jvm.MethodName) prog_15_method_7_code (1 : Nat) (Option.some (Jvm.ClassFile.FieldType.object "com/example/nuntius/nuntius/http/ParameterValue$Kind"))).before args0 about1 = true := code_word (m := ⟨9, 2⟩) (meth := k9m2) (c := k9c2) (by decide +kernel) rfl rfl rfl (by decide +kernel)
set_option maxRecDepth 65536 in
theorem w_c8 : (Jvm.Cond.code ({ cls := "com/example/nuntius/nuntius/http/ParameterValue", name := "text", desc := "()Ljava/lang/String;" } : Jvm.MethodName) prog_15_method_8_code (1 : Nat) (Option.some (Jvm.ClassFile.FieldType.object "java/lang/String"))).before args0 about1 = true := code_word (m := ⟨9, 3⟩) (meth := k9m3) (c := k9c3) (by decide +kernel) rfl rfl rfl (by decide +kernel)
set_option maxRecDepth 65536 in
theorem w_c9 : (Jvm.Cond.code ({ cls := "java/lang/String", name := "length", desc := "()I" } : Jvm.MethodName) jdk_42_method_54_code (1 : Nat) (Option.some Jvm.ClassFile.FieldType.int)).before args0 about1 = true := code_word (m := ⟨7, 2⟩) (meth := k7m2) (c := k7c2) (by decide +kernel) rfl rfl rfl (by decide +kernel)
set_option maxRecDepth 65536 in
theorem w_c10 : (Jvm.Cond.code ({ cls := "java/lang/String", name := "coder", desc := "()B" } : Jvm.MethodName) jdk_42_method_152_code (1 : Nat) (Option.some Jvm.ClassFile.FieldType.byte)).before args0 about1 = true := code_word (m := ⟨7, 5⟩) (meth := k7m5) (c := k7c5) (by decide +kernel) rfl rfl rfl (by decide +kernel)
set_option maxRecDepth 65536 in
theorem w_c11 : (Jvm.Cond.code ({ cls := "java/lang/StringUTF16", name := "compress", desc := "([CII)[B" } : Jvm.MethodName) jdk_52_method_16_code (6 : Nat) (Option.some (Jvm.ClassFile.FieldType.array Jvm.ClassFile.FieldType.byte))).before args0 about1 = true := code_word (m := ⟨12, 8⟩) (meth := k12m8) (c := k12c8) (by decide +kernel) rfl rfl rfl (by decide +kernel)
set_option maxRecDepth 65536 in
theorem w_c12 : (Jvm.Cond.code ({ cls := "java/lang/StringUTF16", name := "compress", desc := "([CI[BII)I" } : Jvm.MethodName) jdk_52_method_21_code (7 : Nat) (Option.some Jvm.ClassFile.FieldType.int)).before args0 about1 = true := code_word (m := ⟨12, 9⟩) (meth := k12m9) (c := k12c9) (by decide +kernel) rfl rfl rfl (by decide +kernel)
set_option maxRecDepth 65536 in
theorem w_c13 : (Jvm.Cond.code ({ cls := "java/lang/StringUTF16", name := "coderFromArrayLen", desc := "([BI)B" } : Jvm.MethodName) jdk_52_method_15_code (2 : Nat) (Option.some Jvm.ClassFile.FieldType.byte)).before args0 about1 = true := code_word (m := ⟨12, 7⟩) (meth := k12m7) (c := k12c7) (by decide +kernel) rfl rfl rfl (by decide +kernel)
set_option maxRecDepth 65536 in
theorem w_c14 : (Jvm.Cond.code ({ cls := "java/lang/String", name := "charAt", desc := "(I)C" } : Jvm.MethodName) jdk_42_method_56_code (2 : Nat) (Option.some Jvm.ClassFile.FieldType.char)).before args0 about1 = true := code_word (m := ⟨7, 3⟩) (meth := k7m3) (c := k7c3) (by decide +kernel) rfl rfl rfl (by decide +kernel)
set_option maxRecDepth 65536 in
theorem w_c15 : (Jvm.Cond.code ({ cls := "java/lang/String", name := "isLatin1", desc := "()Z" } : Jvm.MethodName) jdk_42_method_154_code (1 : Nat) (Option.some Jvm.ClassFile.FieldType.boolean)).before args0 about1 = true := code_word (m := ⟨7, 6⟩) (meth := k7m6) (c := k7c6) (by decide +kernel) rfl rfl rfl (by decide +kernel)
set_option maxRecDepth 65536 in
theorem w_c16 : (Jvm.Cond.code ({ cls := "java/lang/StringLatin1", name := "charAt", desc := "([BI)C" } : Jvm.MethodName) jdk_43_method_2_code (2 : Nat) (Option.some Jvm.ClassFile.FieldType.char)).before args0 about1 = true := code_word (m := ⟨13, 1⟩) (meth := k13m1) (c := k13c1) (by decide +kernel) rfl rfl rfl (by decide +kernel)
set_option maxRecDepth 65536 in
theorem w_c17 : (Jvm.Cond.code ({ cls := "java/lang/String", name := "checkIndex", desc := "(II)V" } : Jvm.MethodName) jdk_42_method_155_code (2 : Nat) (Option.none : Option Jvm.ClassFile.FieldType)).before args0 about1 = true := code_word (m := ⟨7, 7⟩) (meth := k7m7) (c := k7c7) (by decide +kernel) rfl rfl rfl (by decide +kernel)
set_option maxRecDepth 65536 in
theorem w_c18 : (Jvm.Cond.code ({ cls := "jdk/internal/util/Preconditions", name := "checkIndex", desc := "(IILjava/util/function/BiFunction;)I" } : Jvm.MethodName) jdk_41_method_11_code (3 : Nat) (Option.some Jvm.ClassFile.FieldType.int)).before args0 about1 = true := code_word (m := ⟨14, 1⟩) (meth := k14m1) (c := k14c1) (by decide +kernel) rfl rfl rfl (by decide +kernel)
set_option maxRecDepth 65536 in
theorem w_c19 : (Jvm.Cond.code ({ cls := "java/lang/StringUTF16", name := "toBytes", desc := "([CII)[B" } : Jvm.MethodName) jdk_52_method_14_code (5 : Nat) (Option.some (Jvm.ClassFile.FieldType.array Jvm.ClassFile.FieldType.byte))).before args0 about1 = true := code_word (m := ⟨12, 6⟩) (meth := k12m6) (c := k12c6) (by decide +kernel) rfl rfl rfl (by decide +kernel)
set_option maxRecDepth 65536 in
theorem w_c20 : (Jvm.Cond.code ({ cls := "java/lang/StringUTF16", name := "newBytesFor", desc := "(I)[B" } : Jvm.MethodName) jdk_52_method_2_code (1 : Nat) (Option.some (Jvm.ClassFile.FieldType.array Jvm.ClassFile.FieldType.byte))).before args0 about1 = true := code_word (m := ⟨12, 1⟩) (meth := k12m1) (c := k12c1) (by decide +kernel) rfl rfl rfl (by decide +kernel)
set_option maxRecDepth 65536 in
theorem w_c21 : (Jvm.Cond.code ({ cls := "java/lang/StringUTF16", name := "newBytesLength", desc := "(I)I" } : Jvm.MethodName) jdk_52_method_3_code (1 : Nat) (Option.some Jvm.ClassFile.FieldType.int)).before args0 about1 = true := code_word (m := ⟨12, 2⟩) (meth := k12m2) (c := k12c2) (by decide +kernel) rfl rfl rfl (by decide +kernel)
set_option maxRecDepth 65536 in
theorem w_c22 : (Jvm.Cond.code ({ cls := "java/lang/StringUTF16", name := "putChar", desc := "([BII)V" } : Jvm.MethodName) jdk_52_method_4_code (3 : Nat) (Option.none : Option Jvm.ClassFile.FieldType)).before args0 about1 = true := code_word (m := ⟨12, 3⟩) (meth := k12m3) (c := k12c3) (by decide +kernel) rfl rfl rfl (by decide +kernel)
set_option maxRecDepth 65536 in
theorem w_c23 : (Jvm.Cond.code ({ cls := "java/lang/StringUTF16", name := "getChar", desc := "([BI)C" } : Jvm.MethodName) jdk_52_method_5_code (2 : Nat) (Option.some Jvm.ClassFile.FieldType.char)).before args0 about1 = true := code_word (m := ⟨12, 4⟩) (meth := k12m4) (c := k12c4) (by decide +kernel) rfl rfl rfl (by decide +kernel)
set_option maxRecDepth 65536 in
theorem w_c24 : (Jvm.Cond.code ({ cls := "java/lang/StringUTF16", name := "charAt", desc := "([BI)C" } : Jvm.MethodName) jdk_52_method_83_code (2 : Nat) (Option.some Jvm.ClassFile.FieldType.char)).before args0 about1 = true := code_word (m := ⟨12, 10⟩) (meth := k12m10) (c := k12c10) (by decide +kernel) rfl rfl rfl (by decide +kernel)
set_option maxRecDepth 65536 in
theorem w_c25 : (Jvm.Cond.code ({ cls := "java/lang/StringUTF16", name := "checkIndex", desc := "(I[B)V" } : Jvm.MethodName) jdk_52_method_91_code (2 : Nat) (Option.none : Option Jvm.ClassFile.FieldType)).before args0 about1 = true := code_word (m := ⟨12, 11⟩) (meth := k12m11) (c := k12c11) (by decide +kernel) rfl rfl rfl (by decide +kernel)
set_option maxRecDepth 65536 in
theorem w_c26 : (Jvm.Cond.code ({ cls := "java/lang/StringUTF16", name := "length", desc := "([B)I" } : Jvm.MethodName) jdk_52_method_6_code (1 : Nat) (Option.some Jvm.ClassFile.FieldType.int)).before args0 about1 = true := code_word (m := ⟨12, 5⟩) (meth := k12m5) (c := k12c5) (by decide +kernel) rfl rfl rfl (by decide +kernel)
def codes1 : List Jvm.Cond := [Jvm.Cond.code x code maxLocals ret, Jvm.Cond.code ({ cls := "java/lang/String", name := "<init>", desc := "([C)V" } : Jvm.MethodName) jdk_42_method_3_code (2 : Nat) (Option.none : Option Jvm.ClassFile.FieldType), Jvm.Cond.code ({ cls := "java/lang/String", name := "<init>", desc := "([CIILjava/lang/Void;)V" } : Jvm.MethodName) jdk_42_method_149_code (6 : Nat) (Option.none : Option Jvm.ClassFile.FieldType), Jvm.Cond.code ({ cls := "java/lang/Object", name := "<init>", desc := "()V" } : Jvm.MethodName) object_method_1_code (1 : Nat) (Option.none : Option Jvm.ClassFile.FieldType), Jvm.Cond.code ({ cls := "com/example/nuntius/nuntius/http/ParameterValue", name := "of", desc := "(Ljava/lang/String;)Lcom/example/nuntius/nuntius/http/ParameterValue;" } : Jvm.MethodName) prog_15_method_2_code (1 : Nat) (Option.some (Jvm.ClassFile.FieldType.object "com/example/nuntius/nuntius/http/ParameterValue")), Jvm.Cond.code ({ cls := "com/example/nuntius/nuntius/http/ParameterValue", name := "<init>", desc := "(Lcom/example/nuntius/nuntius/http/ParameterValue$Kind;Ljava/lang/String;)V" } : Jvm.MethodName) prog_15_method_1_code (3 : Nat) (Option.none : Option Jvm.ClassFile.FieldType), Jvm.Cond.code ({ cls := "java/lang/Record", name := "<init>", desc := "()V" } : Jvm.MethodName) jdk_30_method_1_code (1 : Nat) (Option.none : Option Jvm.ClassFile.FieldType), Jvm.Cond.code ({ cls := "com/example/nuntius/nuntius/http/ParameterValue", name := "kind", desc := "()Lcom/example/nuntius/nuntius/http/ParameterValue$Kind;" } : Jvm.MethodName) prog_15_method_7_code (1 : Nat) (Option.some (Jvm.ClassFile.FieldType.object "com/example/nuntius/nuntius/http/ParameterValue$Kind")), Jvm.Cond.code ({ cls := "com/example/nuntius/nuntius/http/ParameterValue", name := "text", desc := "()Ljava/lang/String;" } : Jvm.MethodName) prog_15_method_8_code (1 : Nat) (Option.some (Jvm.ClassFile.FieldType.object "java/lang/String")), Jvm.Cond.code ({ cls := "java/lang/String", name := "length", desc := "()I" } : Jvm.MethodName) jdk_42_method_54_code (1 : Nat) (Option.some Jvm.ClassFile.FieldType.int), Jvm.Cond.code ({ cls := "java/lang/String", name := "coder", desc := "()B" } : Jvm.MethodName) jdk_42_method_152_code (1 : Nat) (Option.some Jvm.ClassFile.FieldType.byte), Jvm.Cond.code ({ cls := "java/lang/StringUTF16", name := "compress", desc := "([CII)[B" } : Jvm.MethodName) jdk_52_method_16_code (6 : Nat) (Option.some (Jvm.ClassFile.FieldType.array Jvm.ClassFile.FieldType.byte)), Jvm.Cond.code ({ cls := "java/lang/StringUTF16", name := "compress", desc := "([CI[BII)I" } : Jvm.MethodName) jdk_52_method_21_code (7 : Nat) (Option.some Jvm.ClassFile.FieldType.int), Jvm.Cond.code ({ cls := "java/lang/StringUTF16", name := "coderFromArrayLen", desc := "([BI)B" } : Jvm.MethodName) jdk_52_method_15_code (2 : Nat) (Option.some Jvm.ClassFile.FieldType.byte), Jvm.Cond.code ({ cls := "java/lang/String", name := "charAt", desc := "(I)C" } : Jvm.MethodName) jdk_42_method_56_code (2 : Nat) (Option.some Jvm.ClassFile.FieldType.char), Jvm.Cond.code ({ cls := "java/lang/String", name := "isLatin1", desc := "()Z" } : Jvm.MethodName) jdk_42_method_154_code (1 : Nat) (Option.some Jvm.ClassFile.FieldType.boolean), Jvm.Cond.code ({ cls := "java/lang/StringLatin1", name := "charAt", desc := "([BI)C" } : Jvm.MethodName) jdk_43_method_2_code (2 : Nat) (Option.some Jvm.ClassFile.FieldType.char), Jvm.Cond.code ({ cls := "java/lang/String", name := "checkIndex", desc := "(II)V" } : Jvm.MethodName) jdk_42_method_155_code (2 : Nat) (Option.none : Option Jvm.ClassFile.FieldType), Jvm.Cond.code ({ cls := "jdk/internal/util/Preconditions", name := "checkIndex", desc := "(IILjava/util/function/BiFunction;)I" } : Jvm.MethodName) jdk_41_method_11_code (3 : Nat) (Option.some Jvm.ClassFile.FieldType.int), Jvm.Cond.code ({ cls := "java/lang/StringUTF16", name := "toBytes", desc := "([CII)[B" } : Jvm.MethodName) jdk_52_method_14_code (5 : Nat) (Option.some (Jvm.ClassFile.FieldType.array Jvm.ClassFile.FieldType.byte)), Jvm.Cond.code ({ cls := "java/lang/StringUTF16", name := "newBytesFor", desc := "(I)[B" } : Jvm.MethodName) jdk_52_method_2_code (1 : Nat) (Option.some (Jvm.ClassFile.FieldType.array Jvm.ClassFile.FieldType.byte)), Jvm.Cond.code ({ cls := "java/lang/StringUTF16", name := "newBytesLength", desc := "(I)I" } : Jvm.MethodName) jdk_52_method_3_code (1 : Nat) (Option.some Jvm.ClassFile.FieldType.int), Jvm.Cond.code ({ cls := "java/lang/StringUTF16", name := "putChar", desc := "([BII)V" } : Jvm.MethodName) jdk_52_method_4_code (3 : Nat) (Option.none : Option Jvm.ClassFile.FieldType), Jvm.Cond.code ({ cls := "java/lang/StringUTF16", name := "getChar", desc := "([BI)C" } : Jvm.MethodName) jdk_52_method_5_code (2 : Nat) (Option.some Jvm.ClassFile.FieldType.char), Jvm.Cond.code ({ cls := "java/lang/StringUTF16", name := "charAt", desc := "([BI)C" } : Jvm.MethodName) jdk_52_method_83_code (2 : Nat) (Option.some Jvm.ClassFile.FieldType.char), Jvm.Cond.code ({ cls := "java/lang/StringUTF16", name := "checkIndex", desc := "(I[B)V" } : Jvm.MethodName) jdk_52_method_91_code (2 : Nat) (Option.none : Option Jvm.ClassFile.FieldType), Jvm.Cond.code ({ cls := "java/lang/StringUTF16", name := "length", desc := "([B)I" } : Jvm.MethodName) jdk_52_method_6_code (1 : Nat) (Option.some Jvm.ClassFile.FieldType.int)]
set_option maxRecDepth 65536 in
theorem codes_eq : words1.filter isCode = codes1 := rfl
theorem w_codes : ∀ c ∈ words1.filter isCode, c.before args0 about1 = true := by
  rw [codes_eq]
  intro c hc
  simp only [codes1, List.mem_cons, List.not_mem_nil, or_false] at hc
  rcases hc with rfl | rfl | rfl | rfl | rfl | rfl | rfl | rfl | rfl | rfl | rfl | rfl | rfl | rfl | rfl | rfl | rfl | rfl | rfl | rfl | rfl | rfl | rfl | rfl | rfl | rfl | rfl
  · exact w_c0
  · exact w_c1
  · exact w_c2
  · exact w_c3
  · exact w_c4
  · exact w_c5
  · exact w_c6
  · exact w_c7
  · exact w_c8
  · exact w_c9
  · exact w_c10
  · exact w_c11
  · exact w_c12
  · exact w_c13
  · exact w_c14
  · exact w_c15
  · exact w_c16
  · exact w_c17
  · exact w_c18
  · exact w_c19
  · exact w_c20
  · exact w_c21
  · exact w_c22
  · exact w_c23
  · exact w_c24
  · exact w_c25
  · exact w_c26
set_option maxRecDepth 65536 in
theorem w_t1 : (words1.take 24).all (fun c => isCode c || c.before args0 about1) = true := by decide +kernel
set_option maxRecDepth 65536 in
theorem w_t2 : ((words1.drop 24).take 24).all (fun c => isCode c || c.before args0 about1) = true := by decide +kernel
set_option maxRecDepth 65536 in
theorem w_t3 : (((words1.drop 24).drop 24).take 24).all (fun c => isCode c || c.before args0 about1) = true := by decide +kernel
set_option maxRecDepth 65536 in
theorem w_t4 : ((((words1.drop 24).drop 24).drop 24).take 24).all (fun c => isCode c || c.before args0 about1) = true := by decide +kernel
set_option maxRecDepth 65536 in
theorem w_t5 : (((((words1.drop 24).drop 24).drop 24).drop 24).take 24).all (fun c => isCode c || c.before args0 about1) = true := by decide +kernel
set_option maxRecDepth 65536 in
theorem w_t6 : (((((words1.drop 24).drop 24).drop 24).drop 24).drop 24).all (fun c => isCode c || c.before args0 about1) = true := by decide +kernel
theorem w_tables : (allAtoms (Jvm.Cond.code x code maxLocals ret :: tables_1)).before args0 about1 = true := by
  rw [allAtoms_all]
  show words1.all (fun c => c.before args0 about1) = true
  refine all_split ?_ w_codes
  rw [← List.take_append_drop 24 words1, List.all_append, w_t1, ← List.take_append_drop 24 (words1.drop 24), List.all_append, w_t2, ← List.take_append_drop 24 ((words1.drop 24).drop 24), List.all_append, w_t3, ← List.take_append_drop 24 (((words1.drop 24).drop 24).drop 24), List.all_append, w_t4, ← List.take_append_drop 24 ((((words1.drop 24).drop 24).drop 24).drop 24), List.all_append, w_t5, w_t6]
  rfl
set_option maxRecDepth 65536 in
theorem w_rest : rest_1_c.before args0 about1 = true := by decide +kernel
set_option maxRecDepth 65536 in
theorem w_case : (Jvm.Cond.and given_1 narrow_1).before args0 about1 = true := by decide +kernel
set_option maxRecDepth 65536 in
theorem w_consts : constsHeld consts_1 about1 := Jvm.Lit.constsHeldB_iff.mp (by decide +kernel)
theorem w_applies : (headSpec (Jvm.Cond.code x code maxLocals ret :: tables_1) room_1).applies x e0.platform about1 = true :=
  (Spec.applies_iff w_frames).mpr ⟨w_running, w_runnable, w_alone, w_named, w_hears, w_ripe, w_room, w_tables⟩
theorem atStart : AtStart classFile x code maxLocals ret World_1 tables_1 room_1 Calls_1 rest_1 Pre_1 launch0 p0 e0 about1 theMethod args0 below0 :=
  ⟨lists_1, trivial, launch0.admits_env _ _ _, launch0.least_env, fairChoices_fair.cas, fairChoices_fair.clock, w_frames, w_args, w_heap, w_applies, ⟨w_consts, trivial⟩, w_rest, w_case⟩
end start1
theorem witness_1 : WitnessClaimed_1 := ⟨start1.p0, start1.e0, start1.about1, start1.theMethod, start1.args0, start1.below0, start1.atStart⟩
end Jvm.Pilot.@@N@@
