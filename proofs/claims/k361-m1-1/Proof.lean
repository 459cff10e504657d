import JvmDerived
import JvmDerived.Pilot.@@N@@Statement
import JvmDerived.Pilot.@@N@@Code
set_option linter.unusedVariables false
set_option linter.unusedSimpArgs false
@@BLOCK:NumsL.lean.txt@@
namespace Jvm.OwnKit
open Sem ClassFile Op Lib Jvm.Stand Jvm.Free Jvm.LawKit Jvm.RoadKit
/-- from t the invocation runs to its end, and Post holds there -/
def Goes (p : Program) (e : Env) (below : List Frame) (Post : Outcome → State → Prop) (t : State) : Prop :=
  ∃ s₂ o, Steps p.tables e below t s₂ ∧ s₂.status = .running ∧ Ended s₂ below o ∧ Post o s₂
def i2c (x : Int32) : Int32 := x.toUInt32.toUInt16.toUInt32.toInt32
def i2b (x : Int32) : Int32 := x.toInt8.toInt32
section Goes
variable {p : Program} {e : Env} {below : List Frame} {Post : Outcome → State → Prop} {T T' t t' : State} {m : MethodId} {c : Code} {pc : Nat} {ls : Array Slot} {st rest : List Value}
theorem Goes.go (st : ∀ tg, Steps p.tables e below t' tg → Steps p.tables e below t tg) (h : Goes p e below Post t') : Goes p e below Post t := by
  obtain ⟨s₂, o, h1, h2⟩ := h
  exact ⟨s₂, o, st _ h1, h2⟩
theorem Goes.run (st : Steps p.tables e below t t') (h : Goes p e below Post t') : Goes p e below Post t := by
  obtain ⟨s₂, o, h1, h2⟩ := h
  exact ⟨s₂, o, st.trans h1, h2⟩
theorem Goes.cast {g g' : JFrame} (q : g = g') (h : Goes p e below Post (T.setTop g')) : Goes p e below Post (T.setTop g) := q ▸ h
theorem zeq {x : Int32} (h : x = 0) : ifCond.holds .eq x = true ∧ ifCond.holds .ne x = false := by subst h; exact ⟨rfl, rfl⟩
theorem zne {x : Int32} (h : ¬ x = 0) : ifCond.holds .eq x = false ∧ ifCond.holds .ne x = true := by
  have q : (x == 0) = false := by simp [h]
  exact ⟨q, by show (!(x == 0)) = true; rw [q]; rfl⟩
theorem zlt {x : Int32} (h : x < 0) : ifCond.holds .lt x = true ∧ ifCond.holds .ge x = false := ⟨decide_eq_true h, decide_eq_false (Int32.not_le.mpr h)⟩
theorem znl {x : Int32} (h : ¬ x < 0) : ifCond.holds .lt x = false ∧ ifCond.holds .ge x = true := ⟨decide_eq_false h, decide_eq_true (Int32.not_lt.mp h)⟩
theorem zgt {x : Int32} (h : 0 < x) : ifCond.holds .gt x = true ∧ ifCond.holds .le x = false := ⟨decide_eq_true h, decide_eq_false (Int32.not_le.mpr h)⟩
theorem zng {x : Int32} (h : ¬ 0 < x) : ifCond.holds .gt x = false ∧ ifCond.holds .le x = true := ⟨decide_eq_false h, decide_eq_true (Int32.not_lt.mp h)⟩
namespace G
theorem iload (h : At T m c below) (hx : p.tables.exec = Jvm.exec) (pc' : Nat) {k : Nat} {v : Int32} (hd : decode c.code pc = .ok (.iload k, 2)) (hl : ls[k]? = some (.val (.int v))) (hp : pc + 2 = pc')
    (K : Goes p e below Post (T.setTop (mkF m pc' ls (.int v :: st)))) : Goes p e below Post (T.setTop (mkF m pc ls st)) := by
  subst hp; exact Goes.go (fun _ k => XS.iload h hx rfl hd hl k) K
theorem iloadN (h : At T m c below) (hx : p.tables.exec = Jvm.exec) (pc' : Nat) {k : Fin 4} {v : Int32} (hd : decode c.code pc = .ok (.iload_n k, 1)) (hl : ls[k.val]? = some (.val (.int v))) (hp : pc + 1 = pc')
    (K : Goes p e below Post (T.setTop (mkF m pc' ls (.int v :: st)))) : Goes p e below Post (T.setTop (mkF m pc ls st)) := by
  subst hp; exact Goes.go (fun _ k => XS.iloadN h hx rfl hd hl k) K
theorem lload (h : At T m c below) (hx : p.tables.exec = Jvm.exec) (pc' : Nat) {k : Nat} {v : Int64} (hd : decode c.code pc = .ok (.lload k, 2)) (hl : ls[k]? = some (.val (.long v))) (hp : pc + 2 = pc')
    (K : Goes p e below Post (T.setTop (mkF m pc' ls (.long v :: st)))) : Goes p e below Post (T.setTop (mkF m pc ls st)) := by
  subst hp; exact Goes.go (fun _ k => XT.lload h hx rfl hd hl k) K
theorem lloadN (h : At T m c below) (hx : p.tables.exec = Jvm.exec) (pc' : Nat) {k : Fin 4} {v : Int64} (hd : decode c.code pc = .ok (.lload_n k, 1)) (hl : ls[k.val]? = some (.val (.long v))) (hp : pc + 1 = pc')
    (K : Goes p e below Post (T.setTop (mkF m pc' ls (.long v :: st)))) : Goes p e below Post (T.setTop (mkF m pc ls st)) := by
  subst hp; exact Goes.go (fun _ k => XT.lloadN h hx rfl hd hl k) K
theorem aload (h : At T m c below) (hx : p.tables.exec = Jvm.exec) (pc' : Nat) {k : Nat} {v : Value} (hd : decode c.code pc = .ok (.aload k, 2)) (hl : ls[k]? = some (.val v)) (hv : v.isRef = true) (hp : pc + 2 = pc')
    (K : Goes p e below Post (T.setTop (mkF m pc' ls (v :: st)))) : Goes p e below Post (T.setTop (mkF m pc ls st)) := by
  subst hp; exact Goes.go (fun _ k => XS.aload h hx rfl hd hl hv k) K
theorem aloadN (h : At T m c below) (hx : p.tables.exec = Jvm.exec) (pc' : Nat) {k : Fin 4} {v : Value} (hd : decode c.code pc = .ok (.aload_n k, 1)) (hl : ls[k.val]? = some (.val v)) (hv : v.isRef = true) (hp : pc + 1 = pc')
    (K : Goes p e below Post (T.setTop (mkF m pc' ls (v :: st)))) : Goes p e below Post (T.setTop (mkF m pc ls st)) := by
  subst hp; exact Goes.go (fun _ k => XS.aloadN h hx rfl hd hl hv k) K
theorem iconst (h : At T m c below) (hx : p.tables.exec = Jvm.exec) (pc' : Nat) (z : Int32) {i : Int} (hd : decode c.code pc = .ok (.iconst i, 1)) (hz : Int32.ofInt i = z) (hp : pc + 1 = pc')
    (K : Goes p e below Post (T.setTop (mkF m pc' ls (.int z :: st)))) : Goes p e below Post (T.setTop (mkF m pc ls st)) := by
  subst hp hz; exact Goes.go (fun _ k => XS.iconst h hx rfl hd k) K
theorem bipush (h : At T m c below) (hx : p.tables.exec = Jvm.exec) (pc' : Nat) (z : Int32) {i : Int} (hd : decode c.code pc = .ok (.bipush i, 2)) (hz : (Int8.ofInt i).toInt32 = z) (hp : pc + 2 = pc')
    (K : Goes p e below Post (T.setTop (mkF m pc' ls (.int z :: st)))) : Goes p e below Post (T.setTop (mkF m pc ls st)) := by
  subst hp hz; exact Goes.go (fun _ k => XS.bipush h hx rfl hd k) K
theorem sipush (h : At T m c below) (hx : p.tables.exec = Jvm.exec) (pc' : Nat) (z : Int32) {i : Int} (hd : decode c.code pc = .ok (.sipush i, 3)) (hz : (Int16.ofInt i).toInt32 = z) (hp : pc + 3 = pc')
    (K : Goes p e below Post (T.setTop (mkF m pc' ls (.int z :: st)))) : Goes p e below Post (T.setTop (mkF m pc ls st)) := by
  subst hp hz; exact Goes.go (fun _ k => XS.sipush h hx rfl hd k) K
theorem lconst (h : At T m c below) (hx : p.tables.exec = Jvm.exec) (pc' : Nat) (z : Int64) {i : Fin 2} (hd : decode c.code pc = .ok (.lconst i, 1)) (hz : Int64.ofNat i = z) (hp : pc + 1 = pc')
    (K : Goes p e below Post (T.setTop (mkF m pc' ls (.long z :: st)))) : Goes p e below Post (T.setTop (mkF m pc ls st)) := by
  subst hp hz; exact Goes.go (fun _ k => XT.lconst h hx rfl hd k) K
theorem aconstNull (h : At T m c below) (hx : p.tables.exec = Jvm.exec) (pc' : Nat)  (hd : decode c.code pc = .ok (.aconst_null, 1)) (hp : pc + 1 = pc')
    (K : Goes p e below Post (T.setTop (mkF m pc' ls (.null :: st)))) : Goes p e below Post (T.setTop (mkF m pc ls st)) := by
  subst hp; exact Goes.go (fun _ k => XS.aconstNull h hx rfl hd  k) K
theorem iadd (h : At T m c below) (hx : p.tables.exec = Jvm.exec) (pc' : Nat) {x y : Int32} (hd : decode c.code pc = .ok (.iadd, 1)) (hp : pc + 1 = pc')
    (K : Goes p e below Post (T.setTop (mkF m pc' ls (.int (x + y) :: st)))) : Goes p e below Post (T.setTop (mkF m pc ls (.int y :: .int x :: st))) := by
  subst hp; exact Goes.go (fun _ k => XS.iadd h hx rfl hd rfl k) K
theorem isub (h : At T m c below) (hx : p.tables.exec = Jvm.exec) (pc' : Nat) {x y : Int32} (hd : decode c.code pc = .ok (.isub, 1)) (hp : pc + 1 = pc')
    (K : Goes p e below Post (T.setTop (mkF m pc' ls (.int (x - y) :: st)))) : Goes p e below Post (T.setTop (mkF m pc ls (.int y :: .int x :: st))) := by
  subst hp; exact Goes.go (fun _ k => XS.isub h hx rfl hd rfl k) K
theorem imul (h : At T m c below) (hx : p.tables.exec = Jvm.exec) (pc' : Nat) {x y : Int32} (hd : decode c.code pc = .ok (.imul, 1)) (hp : pc + 1 = pc')
    (K : Goes p e below Post (T.setTop (mkF m pc' ls (.int (x * y) :: st)))) : Goes p e below Post (T.setTop (mkF m pc ls (.int y :: .int x :: st))) := by
  subst hp; exact Goes.go (fun _ k => XS.imul h hx rfl hd rfl k) K
theorem iand (h : At T m c below) (hx : p.tables.exec = Jvm.exec) (pc' : Nat) {x y : Int32} (hd : decode c.code pc = .ok (.iand, 1)) (hp : pc + 1 = pc')
    (K : Goes p e below Post (T.setTop (mkF m pc' ls (.int (x &&& y) :: st)))) : Goes p e below Post (T.setTop (mkF m pc ls (.int y :: .int x :: st))) := by
  subst hp; exact Goes.go (fun _ k => XS.iand h hx rfl hd rfl k) K
theorem ior (h : At T m c below) (hx : p.tables.exec = Jvm.exec) (pc' : Nat) {x y : Int32} (hd : decode c.code pc = .ok (.ior, 1)) (hp : pc + 1 = pc')
    (K : Goes p e below Post (T.setTop (mkF m pc' ls (.int (x ||| y) :: st)))) : Goes p e below Post (T.setTop (mkF m pc ls (.int y :: .int x :: st))) := by
  subst hp; exact Goes.go (fun _ k => XT.ior h hx rfl hd rfl k) K
theorem ixor (h : At T m c below) (hx : p.tables.exec = Jvm.exec) (pc' : Nat) {x y : Int32} (hd : decode c.code pc = .ok (.ixor, 1)) (hp : pc + 1 = pc')
    (K : Goes p e below Post (T.setTop (mkF m pc' ls (.int (x ^^^ y) :: st)))) : Goes p e below Post (T.setTop (mkF m pc ls (.int y :: .int x :: st))) := by
  subst hp; exact Goes.go (fun _ k => XT.ixor h hx rfl hd rfl k) K
theorem ishl (h : At T m c below) (hx : p.tables.exec = Jvm.exec) (pc' : Nat) {x y : Int32} (hd : decode c.code pc = .ok (.ishl, 1)) (hp : pc + 1 = pc')
    (K : Goes p e below Post (T.setTop (mkF m pc' ls (.int (x <<< (y &&& 31)) :: st)))) : Goes p e below Post (T.setTop (mkF m pc ls (.int y :: .int x :: st))) := by
  subst hp; exact Goes.go (fun _ k => XT.ishl h hx rfl hd rfl k) K
theorem ishr (h : At T m c below) (hx : p.tables.exec = Jvm.exec) (pc' : Nat) {x y : Int32} (hd : decode c.code pc = .ok (.ishr, 1)) (hp : pc + 1 = pc')
    (K : Goes p e below Post (T.setTop (mkF m pc' ls (.int (x >>> (y &&& 31)) :: st)))) : Goes p e below Post (T.setTop (mkF m pc ls (.int y :: .int x :: st))) := by
  subst hp; exact Goes.go (fun _ k => XT.ishr h hx rfl hd rfl k) K
theorem iushr (h : At T m c below) (hx : p.tables.exec = Jvm.exec) (pc' : Nat) {x y : Int32} (hd : decode c.code pc = .ok (.iushr, 1)) (hp : pc + 1 = pc')
    (K : Goes p e below Post (T.setTop (mkF m pc' ls (.int (XT.ushr x y) :: st)))) : Goes p e below Post (T.setTop (mkF m pc ls (.int y :: .int x :: st))) := by
  subst hp; exact Goes.go (fun _ k => XT.iushr h hx rfl hd rfl k) K
theorem ladd (h : At T m c below) (hx : p.tables.exec = Jvm.exec) (pc' : Nat) {x y : Int64} (hd : decode c.code pc = .ok (.ladd, 1)) (hp : pc + 1 = pc')
    (K : Goes p e below Post (T.setTop (mkF m pc' ls (.long (x + y) :: st)))) : Goes p e below Post (T.setTop (mkF m pc ls (.long y :: .long x :: st))) := by
  subst hp; exact Goes.go (fun _ k => XT.ladd h hx rfl hd rfl k) K
theorem lsub (h : At T m c below) (hx : p.tables.exec = Jvm.exec) (pc' : Nat) {x y : Int64} (hd : decode c.code pc = .ok (.lsub, 1)) (hp : pc + 1 = pc')
    (K : Goes p e below Post (T.setTop (mkF m pc' ls (.long (x - y) :: st)))) : Goes p e below Post (T.setTop (mkF m pc ls (.long y :: .long x :: st))) := by
  subst hp; exact Goes.go (fun _ k => XT.lsub h hx rfl hd rfl k) K
theorem lmul (h : At T m c below) (hx : p.tables.exec = Jvm.exec) (pc' : Nat) {x y : Int64} (hd : decode c.code pc = .ok (.lmul, 1)) (hp : pc + 1 = pc')
    (K : Goes p e below Post (T.setTop (mkF m pc' ls (.long (x * y) :: st)))) : Goes p e below Post (T.setTop (mkF m pc ls (.long y :: .long x :: st))) := by
  subst hp; exact Goes.go (fun _ k => XT.lmul h hx rfl hd rfl k) K
theorem land (h : At T m c below) (hx : p.tables.exec = Jvm.exec) (pc' : Nat) {x y : Int64} (hd : decode c.code pc = .ok (.land, 1)) (hp : pc + 1 = pc')
    (K : Goes p e below Post (T.setTop (mkF m pc' ls (.long (x &&& y) :: st)))) : Goes p e below Post (T.setTop (mkF m pc ls (.long y :: .long x :: st))) := by
  subst hp; exact Goes.go (fun _ k => XT.land h hx rfl hd rfl k) K
theorem lor (h : At T m c below) (hx : p.tables.exec = Jvm.exec) (pc' : Nat) {x y : Int64} (hd : decode c.code pc = .ok (.lor, 1)) (hp : pc + 1 = pc')
    (K : Goes p e below Post (T.setTop (mkF m pc' ls (.long (x ||| y) :: st)))) : Goes p e below Post (T.setTop (mkF m pc ls (.long y :: .long x :: st))) := by
  subst hp; exact Goes.go (fun _ k => XT.lor h hx rfl hd rfl k) K
theorem lxor (h : At T m c below) (hx : p.tables.exec = Jvm.exec) (pc' : Nat) {x y : Int64} (hd : decode c.code pc = .ok (.lxor, 1)) (hp : pc + 1 = pc')
    (K : Goes p e below Post (T.setTop (mkF m pc' ls (.long (x ^^^ y) :: st)))) : Goes p e below Post (T.setTop (mkF m pc ls (.long y :: .long x :: st))) := by
  subst hp; exact Goes.go (fun _ k => XT.lxor h hx rfl hd rfl k) K
theorem lshl (h : At T m c below) (hx : p.tables.exec = Jvm.exec) (pc' : Nat) {x : Int64} {y : Int32} (hd : decode c.code pc = .ok (.lshl, 1)) (hp : pc + 1 = pc')
    (K : Goes p e below Post (T.setTop (mkF m pc' ls (.long (x <<< (y.toInt64 &&& 63)) :: st)))) : Goes p e below Post (T.setTop (mkF m pc ls (.int y :: .long x :: st))) := by
  subst hp; exact Goes.go (fun _ k => XT.lshl h hx rfl hd rfl k) K
theorem lshr (h : At T m c below) (hx : p.tables.exec = Jvm.exec) (pc' : Nat) {x : Int64} {y : Int32} (hd : decode c.code pc = .ok (.lshr, 1)) (hp : pc + 1 = pc')
    (K : Goes p e below Post (T.setTop (mkF m pc' ls (.long (x >>> (y.toInt64 &&& 63)) :: st)))) : Goes p e below Post (T.setTop (mkF m pc ls (.int y :: .long x :: st))) := by
  subst hp; exact Goes.go (fun _ k => XT.lshr h hx rfl hd rfl k) K
theorem lushr (h : At T m c below) (hx : p.tables.exec = Jvm.exec) (pc' : Nat) {x : Int64} {y : Int32} (hd : decode c.code pc = .ok (.lushr, 1)) (hp : pc + 1 = pc')
    (K : Goes p e below Post (T.setTop (mkF m pc' ls (.long (XT.ushrL x y) :: st)))) : Goes p e below Post (T.setTop (mkF m pc ls (.int y :: .long x :: st))) := by
  subst hp; exact Goes.go (fun _ k => XT.lushr h hx rfl hd rfl k) K
theorem lcmp (h : At T m c below) (hx : p.tables.exec = Jvm.exec) (pc' : Nat) {x y : Int64} (hd : decode c.code pc = .ok (.lcmp, 1)) (hp : pc + 1 = pc')
    (K : Goes p e below Post (T.setTop (mkF m pc' ls (.int (XT.cmpL x y) :: st)))) : Goes p e below Post (T.setTop (mkF m pc ls (.long y :: .long x :: st))) := by
  subst hp; exact Goes.go (fun _ k => XT.lcmp h hx rfl hd rfl k) K
theorem idiv (h : At T m c below) (hx : p.tables.exec = Jvm.exec) (pc' : Nat) {x y : Int32} (hd : decode c.code pc = .ok (.idiv, 1)) (hy : y ≠ 0) (hp : pc + 1 = pc')
    (K : Goes p e below Post (T.setTop (mkF m pc' ls (.int (x / y) :: st)))) : Goes p e below Post (T.setTop (mkF m pc ls (.int y :: .int x :: st))) := by
  subst hp; exact Goes.go (fun _ k => XS.idiv h hx rfl hd rfl hy k) K
theorem irem (h : At T m c below) (hx : p.tables.exec = Jvm.exec) (pc' : Nat) {x y : Int32} (hd : decode c.code pc = .ok (.irem, 1)) (hy : y ≠ 0) (hp : pc + 1 = pc')
    (K : Goes p e below Post (T.setTop (mkF m pc' ls (.int (x % y) :: st)))) : Goes p e below Post (T.setTop (mkF m pc ls (.int y :: .int x :: st))) := by
  subst hp; exact Goes.go (fun _ k => XS.irem h hx rfl hd rfl hy (by rw [irem_eq_mod]; exact k)) K
theorem ineg (h : At T m c below) (hx : p.tables.exec = Jvm.exec) (pc' : Nat) {x : Int32} (hd : decode c.code pc = .ok (.ineg, 1)) (hp : pc + 1 = pc')
    (K : Goes p e below Post (T.setTop (mkF m pc' ls (.int (-x) :: st)))) : Goes p e below Post (T.setTop (mkF m pc ls (.int x :: st))) := by
  subst hp; exact Goes.go (fun _ k => XS.ineg h hx rfl hd rfl k) K
theorem lneg (h : At T m c below) (hx : p.tables.exec = Jvm.exec) (pc' : Nat) {x : Int64} (hd : decode c.code pc = .ok (.lneg, 1)) (hp : pc + 1 = pc')
    (K : Goes p e below Post (T.setTop (mkF m pc' ls (.long (-x) :: st)))) : Goes p e below Post (T.setTop (mkF m pc ls (.long x :: st))) := by
  subst hp; exact Goes.go (fun _ k => XT.lneg h hx rfl hd rfl k) K
theorem i2l (h : At T m c below) (hx : p.tables.exec = Jvm.exec) (pc' : Nat) {x : Int32} (hd : decode c.code pc = .ok (.i2l, 1)) (hp : pc + 1 = pc')
    (K : Goes p e below Post (T.setTop (mkF m pc' ls (.long x.toInt64 :: st)))) : Goes p e below Post (T.setTop (mkF m pc ls (.int x :: st))) := by
  subst hp; exact Goes.go (fun _ k => XT.i2l h hx rfl hd rfl k) K
theorem l2i (h : At T m c below) (hx : p.tables.exec = Jvm.exec) (pc' : Nat) {x : Int64} (hd : decode c.code pc = .ok (.l2i, 1)) (hp : pc + 1 = pc')
    (K : Goes p e below Post (T.setTop (mkF m pc' ls (.int x.toInt32 :: st)))) : Goes p e below Post (T.setTop (mkF m pc ls (.long x :: st))) := by
  subst hp; exact Goes.go (fun _ k => XT.l2i h hx rfl hd rfl k) K
theorem i2b (h : At T m c below) (hx : p.tables.exec = Jvm.exec) (pc' : Nat) {x : Int32} (hd : decode c.code pc = .ok (.i2b, 1)) (hp : pc + 1 = pc')
    (K : Goes p e below Post (T.setTop (mkF m pc' ls (.int (OwnKit.i2b x) :: st)))) : Goes p e below Post (T.setTop (mkF m pc ls (.int x :: st))) := by
  subst hp; exact Goes.go (fun _ k => XT.i2b h hx rfl hd rfl k) K
theorem i2c (h : At T m c below) (hx : p.tables.exec = Jvm.exec) (pc' : Nat) {x : Int32} (hd : decode c.code pc = .ok (.i2c, 1)) (hp : pc + 1 = pc')
    (K : Goes p e below Post (T.setTop (mkF m pc' ls (.int (OwnKit.i2c x) :: st)))) : Goes p e below Post (T.setTop (mkF m pc ls (.int x :: st))) := by
  subst hp; exact Goes.go (fun _ k => XT.i2c h hx rfl hd rfl k) K
theorem dup (h : At T m c below) (hx : p.tables.exec = Jvm.exec) (pc' : Nat) {x : Value} (hd : decode c.code pc = .ok (.dup, 1)) (hc : x.category = 1) (hp : pc + 1 = pc')
    (K : Goes p e below Post (T.setTop (mkF m pc' ls (x :: x :: st)))) : Goes p e below Post (T.setTop (mkF m pc ls (x :: st))) := by
  subst hp; exact Goes.go (fun _ k => XS.dup h hx rfl hd rfl hc k) K
theorem pop (h : At T m c below) (hx : p.tables.exec = Jvm.exec) (pc' : Nat) {x : Value} (hd : decode c.code pc = .ok (.pop, 1)) (hc : x.category = 1) (hp : pc + 1 = pc')
    (K : Goes p e below Post (T.setTop (mkF m pc' ls st))) : Goes p e below Post (T.setTop (mkF m pc ls (x :: st))) := by
  subst hp; exact Goes.go (fun _ k => XT.pop h hx rfl hd rfl hc k) K
theorem dupX1 (h : At T m c below) (hx : p.tables.exec = Jvm.exec) (pc' : Nat) {x y : Value} (hd : decode c.code pc = .ok (.dup_x1, 1)) (hc : x.category = 1) (hc' : y.category = 1) (hp : pc + 1 = pc')
    (K : Goes p e below Post (T.setTop (mkF m pc' ls (x :: y :: x :: st)))) : Goes p e below Post (T.setTop (mkF m pc ls (x :: y :: st))) := by
  subst hp; exact Goes.go (fun _ k => XT.dupX1 h hx rfl hd rfl hc hc' k) K
theorem dup2 (h : At T m c below) (hx : p.tables.exec = Jvm.exec) (pc' : Nat) {x y : Value} (hd : decode c.code pc = .ok (.dup2, 1)) (hc : x.category = 1) (hc' : y.category = 1) (hp : pc + 1 = pc')
    (K : Goes p e below Post (T.setTop (mkF m pc' ls (x :: y :: x :: y :: st)))) : Goes p e below Post (T.setTop (mkF m pc ls (x :: y :: st))) := by
  subst hp; exact Goes.go (fun _ k => XT.dup2 h hx rfl hd rfl hc hc' k) K
theorem iaddF (h : At T m c below) (hx : p.tables.exec = Jvm.exec) (pc' : Nat) (z : Int32) {x y : Int32} (hd : decode c.code pc = .ok (.iadd, 1)) (hz : x + y = z) (hp : pc + 1 = pc')
    (K : Goes p e below Post (T.setTop (mkF m pc' ls (.int z :: st)))) : Goes p e below Post (T.setTop (mkF m pc ls (.int y :: .int x :: st))) := by
  subst hz; exact iadd h hx pc' hd hp K
theorem isubF (h : At T m c below) (hx : p.tables.exec = Jvm.exec) (pc' : Nat) (z : Int32) {x y : Int32} (hd : decode c.code pc = .ok (.isub, 1)) (hz : x - y = z) (hp : pc + 1 = pc')
    (K : Goes p e below Post (T.setTop (mkF m pc' ls (.int z :: st)))) : Goes p e below Post (T.setTop (mkF m pc ls (.int y :: .int x :: st))) := by
  subst hz; exact isub h hx pc' hd hp K
theorem imulF (h : At T m c below) (hx : p.tables.exec = Jvm.exec) (pc' : Nat) (z : Int32) {x y : Int32} (hd : decode c.code pc = .ok (.imul, 1)) (hz : x * y = z) (hp : pc + 1 = pc')
    (K : Goes p e below Post (T.setTop (mkF m pc' ls (.int z :: st)))) : Goes p e below Post (T.setTop (mkF m pc ls (.int y :: .int x :: st))) := by
  subst hz; exact imul h hx pc' hd hp K
theorem iandF (h : At T m c below) (hx : p.tables.exec = Jvm.exec) (pc' : Nat) (z : Int32) {x y : Int32} (hd : decode c.code pc = .ok (.iand, 1)) (hz : x &&& y = z) (hp : pc + 1 = pc')
    (K : Goes p e below Post (T.setTop (mkF m pc' ls (.int z :: st)))) : Goes p e below Post (T.setTop (mkF m pc ls (.int y :: .int x :: st))) := by
  subst hz; exact iand h hx pc' hd hp K
theorem iorF (h : At T m c below) (hx : p.tables.exec = Jvm.exec) (pc' : Nat) (z : Int32) {x y : Int32} (hd : decode c.code pc = .ok (.ior, 1)) (hz : x ||| y = z) (hp : pc + 1 = pc')
    (K : Goes p e below Post (T.setTop (mkF m pc' ls (.int z :: st)))) : Goes p e below Post (T.setTop (mkF m pc ls (.int y :: .int x :: st))) := by
  subst hz; exact ior h hx pc' hd hp K
theorem ixorF (h : At T m c below) (hx : p.tables.exec = Jvm.exec) (pc' : Nat) (z : Int32) {x y : Int32} (hd : decode c.code pc = .ok (.ixor, 1)) (hz : x ^^^ y = z) (hp : pc + 1 = pc')
    (K : Goes p e below Post (T.setTop (mkF m pc' ls (.int z :: st)))) : Goes p e below Post (T.setTop (mkF m pc ls (.int y :: .int x :: st))) := by
  subst hz; exact ixor h hx pc' hd hp K
theorem ishlF (h : At T m c below) (hx : p.tables.exec = Jvm.exec) (pc' : Nat) (z : Int32) {x y : Int32} (hd : decode c.code pc = .ok (.ishl, 1)) (hz : x <<< (y &&& 31) = z) (hp : pc + 1 = pc')
    (K : Goes p e below Post (T.setTop (mkF m pc' ls (.int z :: st)))) : Goes p e below Post (T.setTop (mkF m pc ls (.int y :: .int x :: st))) := by
  subst hz; exact ishl h hx pc' hd hp K
theorem ishrF (h : At T m c below) (hx : p.tables.exec = Jvm.exec) (pc' : Nat) (z : Int32) {x y : Int32} (hd : decode c.code pc = .ok (.ishr, 1)) (hz : x >>> (y &&& 31) = z) (hp : pc + 1 = pc')
    (K : Goes p e below Post (T.setTop (mkF m pc' ls (.int z :: st)))) : Goes p e below Post (T.setTop (mkF m pc ls (.int y :: .int x :: st))) := by
  subst hz; exact ishr h hx pc' hd hp K
theorem iushrF (h : At T m c below) (hx : p.tables.exec = Jvm.exec) (pc' : Nat) (z : Int32) {x y : Int32} (hd : decode c.code pc = .ok (.iushr, 1)) (hz : XT.ushr x y = z) (hp : pc + 1 = pc')
    (K : Goes p e below Post (T.setTop (mkF m pc' ls (.int z :: st)))) : Goes p e below Post (T.setTop (mkF m pc ls (.int y :: .int x :: st))) := by
  subst hz; exact iushr h hx pc' hd hp K
theorem inegF (h : At T m c below) (hx : p.tables.exec = Jvm.exec) (pc' : Nat) (z : Int32) {x : Int32} (hd : decode c.code pc = .ok (.ineg, 1)) (hz : -x = z) (hp : pc + 1 = pc')
    (K : Goes p e below Post (T.setTop (mkF m pc' ls (.int z :: st)))) : Goes p e below Post (T.setTop (mkF m pc ls (.int x :: st))) := by
  subst hz; exact ineg h hx pc' hd hp K
theorem istore (h : At T m c below) (hx : p.tables.exec = Jvm.exec) (pc' : Nat) (l' : Int32 → Array Slot) {k : Nat} {x : Int32} (hd : decode c.code pc = .ok (.istore k, 2)) (hl : ∀ v, storeLocals ls k (.int v) = some (l' v)) (hp : pc + 2 = pc')
    (K : ∀ v, v = x → Goes p e below Post (T.setTop (mkF m pc' (l' v) st))) : Goes p e below Post (T.setTop (mkF m pc ls (.int x :: st))) := by
  subst hp; exact Goes.go (fun _ k => XS.istore h hx rfl hd rfl (hl x) k) (K x rfl)
theorem istoreN (h : At T m c below) (hx : p.tables.exec = Jvm.exec) (pc' : Nat) (l' : Int32 → Array Slot) {k : Fin 4} {x : Int32} (hd : decode c.code pc = .ok (.istore_n k, 1)) (hl : ∀ v, storeLocals ls k.val (.int v) = some (l' v)) (hp : pc + 1 = pc')
    (K : ∀ v, v = x → Goes p e below Post (T.setTop (mkF m pc' (l' v) st))) : Goes p e below Post (T.setTop (mkF m pc ls (.int x :: st))) := by
  subst hp; exact Goes.go (fun _ k => XS.istoreN h hx rfl hd rfl (hl x) k) (K x rfl)
theorem lstore (h : At T m c below) (hx : p.tables.exec = Jvm.exec) (pc' : Nat) (l' : Int64 → Array Slot) {k : Nat} {x : Int64} (hd : decode c.code pc = .ok (.lstore k, 2)) (hl : ∀ v, storeLocals ls k (.long v) = some (l' v)) (hp : pc + 2 = pc')
    (K : ∀ v, v = x → Goes p e below Post (T.setTop (mkF m pc' (l' v) st))) : Goes p e below Post (T.setTop (mkF m pc ls (.long x :: st))) := by
  subst hp; exact Goes.go (fun _ k => XT.lstore h hx rfl hd rfl (hl x) k) (K x rfl)
theorem lstoreN (h : At T m c below) (hx : p.tables.exec = Jvm.exec) (pc' : Nat) (l' : Int64 → Array Slot) {k : Fin 4} {x : Int64} (hd : decode c.code pc = .ok (.lstore_n k, 1)) (hl : ∀ v, storeLocals ls k.val (.long v) = some (l' v)) (hp : pc + 1 = pc')
    (K : ∀ v, v = x → Goes p e below Post (T.setTop (mkF m pc' (l' v) st))) : Goes p e below Post (T.setTop (mkF m pc ls (.long x :: st))) := by
  subst hp; exact Goes.go (fun _ k => XT.lstoreN h hx rfl hd rfl (hl x) k) (K x rfl)
theorem istoreX (h : At T m c below) (hx : p.tables.exec = Jvm.exec) (pc' : Nat) (l' : Array Slot) {k : Nat} {x : Int32} (hd : decode c.code pc = .ok (.istore k, 2)) (hl : storeLocals ls k (.int x) = some l') (hp : pc + 2 = pc')
    (K : Goes p e below Post (T.setTop (mkF m pc' l' st))) : Goes p e below Post (T.setTop (mkF m pc ls (.int x :: st))) := by
  subst hp; exact Goes.go (fun _ k => XS.istore h hx rfl hd rfl hl k) K
theorem istoreNX (h : At T m c below) (hx : p.tables.exec = Jvm.exec) (pc' : Nat) (l' : Array Slot) {k : Fin 4} {x : Int32} (hd : decode c.code pc = .ok (.istore_n k, 1)) (hl : storeLocals ls k.val (.int x) = some l') (hp : pc + 1 = pc')
    (K : Goes p e below Post (T.setTop (mkF m pc' l' st))) : Goes p e below Post (T.setTop (mkF m pc ls (.int x :: st))) := by
  subst hp; exact Goes.go (fun _ k => XS.istoreN h hx rfl hd rfl hl k) K
theorem lstoreX (h : At T m c below) (hx : p.tables.exec = Jvm.exec) (pc' : Nat) (l' : Array Slot) {k : Nat} {x : Int64} (hd : decode c.code pc = .ok (.lstore k, 2)) (hl : storeLocals ls k (.long x) = some l') (hp : pc + 2 = pc')
    (K : Goes p e below Post (T.setTop (mkF m pc' l' st))) : Goes p e below Post (T.setTop (mkF m pc ls (.long x :: st))) := by
  subst hp; exact Goes.go (fun _ k => XT.lstore h hx rfl hd rfl hl k) K
theorem lstoreNX (h : At T m c below) (hx : p.tables.exec = Jvm.exec) (pc' : Nat) (l' : Array Slot) {k : Fin 4} {x : Int64} (hd : decode c.code pc = .ok (.lstore_n k, 1)) (hl : storeLocals ls k.val (.long x) = some l') (hp : pc + 1 = pc')
    (K : Goes p e below Post (T.setTop (mkF m pc' l' st))) : Goes p e below Post (T.setTop (mkF m pc ls (.long x :: st))) := by
  subst hp; exact Goes.go (fun _ k => XT.lstoreN h hx rfl hd rfl hl k) K
theorem iincX (h : At T m c below) (hx : p.tables.exec = Jvm.exec) (pc' : Nat) (l' : Array Slot) {k : Nat} {cst : Int} {x : Int32} (hd : decode c.code pc = .ok (.iinc k cst, 3)) (hg : ls[k]? = some (.val (.int x))) (z : Int32) (hz : Int32.ofInt cst = z) (hl : storeLocals ls k (.int (x + z)) = some l') (hp : pc + 3 = pc')
    (K : Goes p e below Post (T.setTop (mkF m pc' l' st))) : Goes p e below Post (T.setTop (mkF m pc ls st)) := by
  subst hp hz; exact Goes.go (fun _ k => XS.iinc h hx rfl hd hg hl k) K
theorem astore (h : At T m c below) (hx : p.tables.exec = Jvm.exec) (pc' : Nat) (l' : Array Slot) {k : Nat} {x : Value} (hd : decode c.code pc = .ok (.astore k, 2)) (hv : x.isRef = true) (hl : storeLocals ls k x = some l') (hp : pc + 2 = pc')
    (K : Goes p e below Post (T.setTop (mkF m pc' l' st))) : Goes p e below Post (T.setTop (mkF m pc ls (x :: st))) := by
  subst hp; exact Goes.go (fun _ k => XS.astore h hx rfl hd rfl hv hl k) K
theorem astoreN (h : At T m c below) (hx : p.tables.exec = Jvm.exec) (pc' : Nat) (l' : Array Slot) {k : Fin 4} {x : Value} (hd : decode c.code pc = .ok (.astore_n k, 1)) (hv : x.isRef = true) (hl : storeLocals ls k.val x = some l') (hp : pc + 1 = pc')
    (K : Goes p e below Post (T.setTop (mkF m pc' l' st))) : Goes p e below Post (T.setTop (mkF m pc ls (x :: st))) := by
  subst hp; exact Goes.go (fun _ k => XS.astoreN h hx rfl hd rfl hv hl k) K
theorem iinc (h : At T m c below) (hx : p.tables.exec = Jvm.exec) (pc' : Nat) (l' : Int32 → Array Slot) {k : Nat} {cst : Int} {x : Int32} (hd : decode c.code pc = .ok (.iinc k cst, 3)) (hg : ls[k]? = some (.val (.int x))) (z : Int32) (hz : Int32.ofInt cst = z) (hl : ∀ v, storeLocals ls k (.int v) = some (l' v)) (hp : pc + 3 = pc')
    (K : ∀ v, v = x + z → Goes p e below Post (T.setTop (mkF m pc' (l' v) st))) : Goes p e below Post (T.setTop (mkF m pc ls st)) := by
  subst hp hz; exact Goes.go (fun _ k => XS.iinc h hx rfl hd hg (hl _) k) (K _ rfl)
theorem goto (h : At T m c below) (hx : p.tables.exec = Jvm.exec) (pc' : Nat) {o : Int} (hd : decode c.code pc = .ok (.goto o, 3)) (ho : 0 ≤ (pc : Int) + o) (hp : ((pc : Int) + o).toNat = pc')
    (K : Goes p e below Post (T.setTop (mkF m pc' ls st))) : Goes p e below Post (T.setTop (mkF m pc ls st)) := Goes.go (fun _ k => XS.goto h hx rfl (pc0 := pc) rfl hd ho hp k) K
theorem ifY (h : At T m c below) (hx : p.tables.exec = Jvm.exec) (pc' : Nat) {cd : ClassFile.Cond} {x : Int32} {o : Int} (hd : decode c.code pc = .ok (.ifCond cd o, 3)) (hc : ifCond.holds cd x = true) (ho : 0 ≤ (pc : Int) + o) (hp : ((pc : Int) + o).toNat = pc')
    (K : Goes p e below Post (T.setTop (mkF m pc' ls st))) : Goes p e below Post (T.setTop (mkF m pc ls (.int x :: st))) := Goes.go (fun _ k => XS.ifYes h hx rfl (pc0 := pc) rfl hd rfl hc ho hp k) K
theorem ifN (h : At T m c below) (hx : p.tables.exec = Jvm.exec) (pc' : Nat) {cd : ClassFile.Cond} {x : Int32} {o : Int} (hd : decode c.code pc = .ok (.ifCond cd o, 3)) (hc : ifCond.holds cd x = false) (hp : pc + 3 = pc')
    (K : Goes p e below Post (T.setTop (mkF m pc' ls st))) : Goes p e below Post (T.setTop (mkF m pc ls (.int x :: st))) := by
  subst hp; exact Goes.go (fun _ k => XS.ifNo h hx rfl hd rfl hc k) K
theorem icmpY (h : At T m c below) (hx : p.tables.exec = Jvm.exec) (pc' : Nat) {cd : ClassFile.Cond} {x y : Int32} {o : Int} (hd : decode c.code pc = .ok (.if_icmp cd o, 3)) (hc : if_icmp.holds cd x y = true) (ho : 0 ≤ (pc : Int) + o) (hp : ((pc : Int) + o).toNat = pc')
    (K : Goes p e below Post (T.setTop (mkF m pc' ls st))) : Goes p e below Post (T.setTop (mkF m pc ls (.int y :: .int x :: st))) := Goes.go (fun _ k => XS.icmpYes h hx rfl (pc0 := pc) rfl hd rfl hc ho hp k) K
theorem icmpN (h : At T m c below) (hx : p.tables.exec = Jvm.exec) (pc' : Nat) {cd : ClassFile.Cond} {x y : Int32} {o : Int} (hd : decode c.code pc = .ok (.if_icmp cd o, 3)) (hc : if_icmp.holds cd x y = false) (hp : pc + 3 = pc')
    (K : Goes p e below Post (T.setTop (mkF m pc' ls st))) : Goes p e below Post (T.setTop (mkF m pc ls (.int y :: .int x :: st))) := by
  subst hp; exact Goes.go (fun _ k => XS.icmpNo h hx rfl hd rfl hc k) K
theorem ifnullY (h : At T m c below) (hx : p.tables.exec = Jvm.exec) (pc' : Nat) {o : Int} (hd : decode c.code pc = .ok (.ifnull o, 3)) (ho : 0 ≤ (pc : Int) + o) (hp : ((pc : Int) + o).toNat = pc')
    (K : Goes p e below Post (T.setTop (mkF m pc' ls st))) : Goes p e below Post (T.setTop (mkF m pc ls (.null :: st))) := Goes.go (fun _ k => XS.ifnullYes h hx rfl (pc0 := pc) rfl hd rfl ho hp k) K
theorem ifnullN (h : At T m c below) (hx : p.tables.exec = Jvm.exec) (pc' : Nat) {b : Addr} {o : Int} (hd : decode c.code pc = .ok (.ifnull o, 3)) (hp : pc + 3 = pc')
    (K : Goes p e below Post (T.setTop (mkF m pc' ls st))) : Goes p e below Post (T.setTop (mkF m pc ls (.ref b :: st))) := by
  subst hp; exact Goes.go (fun _ k => XS.ifnullNo h hx rfl hd rfl k) K
theorem ifnonnullY (h : At T m c below) (hx : p.tables.exec = Jvm.exec) (pc' : Nat) {b : Addr} {o : Int} (hd : decode c.code pc = .ok (.ifnonnull o, 3)) (ho : 0 ≤ (pc : Int) + o) (hp : ((pc : Int) + o).toNat = pc')
    (K : Goes p e below Post (T.setTop (mkF m pc' ls st))) : Goes p e below Post (T.setTop (mkF m pc ls (.ref b :: st))) := Goes.go (fun _ k => XT.ifnonnullYes h hx rfl (pc0 := pc) rfl hd rfl ho hp k) K
theorem ifnonnullN (h : At T m c below) (hx : p.tables.exec = Jvm.exec) (pc' : Nat) {o : Int} (hd : decode c.code pc = .ok (.ifnonnull o, 3)) (hp : pc + 3 = pc')
    (K : Goes p e below Post (T.setTop (mkF m pc' ls st))) : Goes p e below Post (T.setTop (mkF m pc ls (.null :: st))) := by
  subst hp; exact Goes.go (fun _ k => XT.ifnonnullNo h hx rfl hd rfl k) K
theorem acmpY (h : At T m c below) (hx : p.tables.exec = Jvm.exec) (pc' : Nat) {cd : ClassFile.ACond} {x y : Value} {o : Int} (hd : decode c.code pc = .ok (.if_acmp cd o, 3)) (h1 : x.isRef = true) (h2 : y.isRef = true) (hc : XT.acmp cd x y = true) (ho : 0 ≤ (pc : Int) + o) (hp : ((pc : Int) + o).toNat = pc')
    (K : Goes p e below Post (T.setTop (mkF m pc' ls st))) : Goes p e below Post (T.setTop (mkF m pc ls (y :: x :: st))) := Goes.go (fun _ k => XT.acmpYes h hx rfl (pc0 := pc) rfl hd rfl h1 h2 hc ho hp k) K
theorem acmpN (h : At T m c below) (hx : p.tables.exec = Jvm.exec) (pc' : Nat) {cd : ClassFile.ACond} {x y : Value} {o : Int} (hd : decode c.code pc = .ok (.if_acmp cd o, 3)) (h1 : x.isRef = true) (h2 : y.isRef = true) (hc : XT.acmp cd x y = false) (hp : pc + 3 = pc')
    (K : Goes p e below Post (T.setTop (mkF m pc' ls st))) : Goes p e below Post (T.setTop (mkF m pc ls (y :: x :: st))) := by
  subst hp; exact Goes.go (fun _ k => XT.acmpNo h hx rfl hd rfl h1 h2 hc k) K
theorem ifnullV (h : At T m c below) (hx : p.tables.exec = Jvm.exec) (pc' pn : Nat) {v : Value} (hv : v.isRef = true) {o : Int} (hd : decode c.code pc = .ok (.ifnull o, 3)) (ho : 0 ≤ (pc : Int) + o) (hp : ((pc : Int) + o).toNat = pc') (hq : pc + 3 = pn)
    (KY : v = .null → Goes p e below Post (T.setTop (mkF m pc' ls st))) (KN : ¬ v = .null → Goes p e below Post (T.setTop (mkF m pn ls st))) : Goes p e below Post (T.setTop (mkF m pc ls (v :: st))) := by
  subst hq
  rcases ref_cases hv with hv0 | ⟨b, hv0⟩
  · subst hv0; exact Goes.go (fun _ k => XS.ifnullYes h hx rfl (pc0 := pc) rfl hd rfl ho hp k) (KY rfl)
  · subst hv0; exact Goes.go (fun _ k => XS.ifnullNo h hx rfl hd rfl k) (KN (fun q => nomatch q))
theorem ifnonnullV (h : At T m c below) (hx : p.tables.exec = Jvm.exec) (pc' pn : Nat) {v : Value} (hv : v.isRef = true) {o : Int} (hd : decode c.code pc = .ok (.ifnonnull o, 3)) (ho : 0 ≤ (pc : Int) + o) (hp : ((pc : Int) + o).toNat = pc') (hq : pc + 3 = pn)
    (KY : ¬ v = .null → Goes p e below Post (T.setTop (mkF m pc' ls st))) (KN : v = .null → Goes p e below Post (T.setTop (mkF m pn ls st))) : Goes p e below Post (T.setTop (mkF m pc ls (v :: st))) := by
  subst hq
  rcases ref_cases hv with hv0 | ⟨b, hv0⟩
  · subst hv0; exact Goes.go (fun _ k => XT.ifnonnullNo h hx rfl hd rfl k) (KN rfl)
  · subst hv0; exact Goes.go (fun _ k => XT.ifnonnullYes h hx rfl (pc0 := pc) rfl hd rfl ho hp k) (KY (fun q => nomatch q))
end G
end Goes
end Jvm.OwnKit
namespace Jvm.OwnKit
open Sem ClassFile Op Lib Jvm.Stand Jvm.Free Jvm.LawKit Jvm.RoadKit
theorem ext_refl (h : Heap) : Ext h h := ⟨Nat.le_refl _, fun _ _ q => q⟩
theorem ext_trans {h h' h'' : Heap} (A : Ext h h') (B : Ext h' h'') : Ext h h'' := ⟨Nat.le_trans A.1 B.1, fun x c q => B.2 x c (A.2 x c q)⟩
theorem ext_keep {h h' : Heap} (E : Ext h h') (ws : List Addr) : Keep h h' ws := (Keep.refl h ws).ext E
theorem keep_ext {h h' : Heap} {ws : List Addr} (K : Keep h h' ws) (q : ∀ x ∈ ws, h.size ≤ x) : Ext h h' :=
  ⟨K.1, fun x c hx => K.2.1 x c hx fun z => absurd (Array.getElem?_eq_some_iff.mp hx).1 (Nat.not_lt.mpr (q x z))⟩
theorem keep_nil {h h' : Heap} (K : Keep h h' []) : Ext h h' := keep_ext K fun _ q => nomatch q
theorem keep_one {h h' : Heap} {a : Addr} (K : Keep h h' [a]) (q : h.size ≤ a) : Ext h h' := keep_ext K fun x hx => by cases List.mem_singleton.mp hx; exact q
/-- where the walk of a body stands: its start's heap h0, what it may write of it (ws), the tables' base vm0, the state, the heap -/
def Wk (p : Program) (l : Launch) (e : Env) (R : Room) (s : State) (m : MethodId) (args : Array Value) (below : List Frame) (meth : Method) (c : Code) (Z : State) (EL : List (String × Nat)) (h0 : Heap) (ws : List Addr) (vm0 : Vm) (T : State) (h : Heap) (cells slots : Nat) : Prop :=
  ∃ locs, Stand p l e R (s.setVm vm0) m args below meth c T locs cells slots ∧ Fr Z.heap.size locs ∧ T.heap = h ∧ Keep h0 h ws ∧ s.heap = h0 ∧ Ext Z.heap h0 ∧ (∀ x ∈ ws, Z.heap.size ≤ x) ∧ Z.Warmed39 vm0 ∧ (∃ k0, s.Since vm0 k0 ∧ k0 ≤ h.size) ∧ CHr Z EL s.vm h0 vm0 h
section Wk
variable {p : Program} {l : Launch} {e : Env} {R : Room} {s : State} {m : MethodId} {args : Array Value} {below : List Frame} {meth : Method} {c : Code} {Z : State} {EL : List (String × Nat)} {h0 : Heap} {ws : List Addr} {vm0 : Vm} {T : State} {h : Heap} {cells slots : Nat} {a0 : Array Value} {Post : Outcome → State → Prop} {pc : Nat} {ls : Array Slot} {st rest : List Value} {own : String}
theorem Wk.here (W : Wk p l e R s m args below meth c Z EL h0 ws vm0 T h cells slots) : At T m c below := by obtain ⟨_, X, _⟩ := W; exact X.here
theorem Wk.warm (W : Wk p l e R s m args below meth c Z EL h0 ws vm0 T h cells slots) : Z.Warmed39 vm0 := by obtain ⟨_, _, _, _, _, _, _, _, q, _⟩ := W; exact q
theorem Wk.alike (W : Wk p l e R s m args below meth c Z EL h0 ws vm0 T h cells slots) : Z.vm.Alike vm0 := W.warm.alike
theorem Wk.chr (W : Wk p l e R s m args below meth c Z EL h0 ws vm0 T h cells slots) : CHr Z EL s.vm h0 vm0 h := by obtain ⟨_, _, _, _, _, _, _, _, _, _, q⟩ := W; exact q
theorem Wk.ch (W : Wk p l e R s m args below meth c Z EL h0 ws vm0 T h cells slots) : CHv Z EL vm0 h := W.chr.1
theorem Wk.keeps (W : Wk p l e R s m args below meth c Z EL h0 ws vm0 T h cells slots) : Keep h0 h ws := by obtain ⟨_, _, _, _, q, _⟩ := W; exact q
theorem Wk.size (W : Wk p l e R s m args below meth c Z EL h0 ws vm0 T h cells slots) : h0.size ≤ h.size := W.keeps.1
theorem Wk.zsize (W : Wk p l e R s m args below meth c Z EL h0 ws vm0 T h cells slots) : Z.heap.size ≤ h0.size := by obtain ⟨_, _, _, _, _, _, q, _⟩ := W; exact q.1
theorem Wk.mono (W : Wk p l e R s m args below meth c Z EL h0 ws vm0 T h cells slots) {cells' slots' : Nat} (hc : cells ≤ cells') (hn : slots ≤ slots') : Wk p l e R s m args below meth c Z EL h0 ws vm0 T h cells' slots' := by
  obtain ⟨locs, X, r⟩ := W; exact ⟨locs, X.mono hc hn, r⟩
theorem Wk.old (W : Wk p l e R s m args below meth c Z EL h0 ws vm0 T h cells slots) : Ext Z.heap h := by
  obtain ⟨_, _, _, _, K, _, E, hws, _⟩ := W
  exact ⟨Nat.le_trans E.1 K.1, fun x cl q => K.2.1 x cl (E.2 x cl q) fun z => absurd (Array.getElem?_eq_some_iff.mp q).1 (Nat.not_lt.mpr (hws x z))⟩
theorem Wk.wown (W : Wk p l e R s m args below meth c Z EL h0 ws vm0 T h cells slots) (ho : Z.vm.findClass own = some m.cls) : (s.setVm vm0).vm.findClass own = some m.cls := by
  show vm0.findClass own = some m.cls
  rw [W.alike.findClass]; exact ho
theorem Wk.may (W : Wk p l e R s m args below meth c Z EL h0 ws vm0 T h cells slots) {a : Addr} (q : a ∈ ws ∨ h0.size ≤ a) : Z.heap.size ≤ a := by
  obtain ⟨_, _, _, _, _, _, E, hws, _⟩ := W
  exact q.elim (hws a) fun r => Nat.le_trans E.1 r
theorem Wk.grown (W : Wk p l e R s m args below meth c Z EL h0 ws vm0 T h cells slots) {T' : State} {h' : Heap} {k n : Nat} (X' : ∀ locs, Stand p l e R (s.setVm vm0) m args below meth c T locs cells slots → Stand p l e R (s.setVm vm0) m args below meth c T' locs k n) (e' : T'.heap = h') (E : Ext h h') : Wk p l e R s m args below meth c Z EL h0 ws vm0 T' h' k n := by
  obtain ⟨locs, X, N, eh, K, es, O, hws, hZ, ⟨k0, hS, hk⟩, C⟩ := W
  exact ⟨locs, X' locs X, N, e', K.ext E, es, O, hws, hZ, ⟨k0, hS, Nat.le_trans hk E.1⟩, C.trans (CHr.ext E C.1)⟩
theorem Wk.newO (W : Wk p l e R s m args below meth c Z EL h0 ws vm0 T h cells slots) (hx : p.tables.exec = Jvm.exec) (ho : Z.vm.findClass own = some m.cls) {C : String} {index n : Nat} (w : (Cond.classLink own index C).before a0 Z = true) (wi : (Cond.instantiable C n).before a0 Z = true) (wz : (Cond.initialized C).before a0 Z = true)
    (pc' : Nat) (hd : decode c.code pc = .ok (.new index, 3)) (hp : pc + 3 = pc') (hc : cells + 1 ≤ R.cells) (hl : slots + n ≤ R.slots)
    (K : ∀ (T' : State) (h' : Heap) (a : Addr), Wk p l e R s m args below meth c Z EL h0 ws vm0 T' h' (cells + 1) (slots + n) → Ext h h' → a = h.size → Exa Z h' a C → (∀ {O nm d : String} {ty : FieldType}, Laid Z a0 C O nm d → parseFieldDescriptor d = some ty → Fld Z h' a O nm d (defaultValue ty)) → Safe Z EL vm0 h' a → Goes p e below Post (T'.setTop (mkF m pc' ls (.ref a :: st)))) : Goes p e below Post (T.setTop (mkF m pc ls st)) := by
  subst hp
  have ho' := W.wown ho
  have W0 := W
  obtain ⟨locs, X, N, eh, K0, es, O, hws, hZ, ⟨k0, hS, hk⟩, C⟩ := W
  obtain ⟨T', h', X', e', E, A, D, -, stp⟩ := RoadKit.newO X hx hZ ho' w wi wz eh (g := mkF m pc ls st) rfl hd hc hl
  exact Goes.go stp (K T' h' _ ⟨locs, X', N, e', K0.ext E, es, O, hws, hZ, ⟨k0, hS, Nat.le_trans hk E.1⟩, C.trans (CHr.ext E C.1)⟩ E rfl A D fun B => Safe.new (Nat.le_refl _) ((C.1.step fun _ _ _ q => E.2 _ _ q).2 _ B))
theorem Wk.newP (W : Wk p l e R s m args below meth c Z EL h0 ws vm0 T h cells slots) (hx : p.tables.exec = Jvm.exec) {aty : ArrayType} (w : (Cond.arrayClass (newarray.typeOf aty)).before a0 Z = true)
    (pc' : Nat) (hd : decode c.code pc = .ok (.newarray aty, 2)) {n : Int32} (hn : ¬ n < 0) (cap : Nat) (hcap : n.toNatClampNeg ≤ cap) (hp : pc + 2 = pc') (hb : cap * 8 ≤ 536870912) (hc : cells + 1 ≤ R.cells) (hl : slots + cap ≤ R.slots)
    (K : ∀ (T' : State) (h' : Heap) (a : Addr) (k : ClassId), Wk p l e R s m args below meth c Z EL h0 ws vm0 T' h' (cells + 1) (slots + cap) → Ext h h' → a = h.size → Arv Z h' a k (newarray.typeOf aty) n (List.replicate cap (defaultValue (newarray.typeOf aty))) (defaultValue (newarray.typeOf aty)) → Safe Z EL vm0 h' a → Goes p e below Post (T'.setTop (mkF m pc' ls (.ref a :: st)))) : Goes p e below Post (T.setTop (mkF m pc ls (.int n :: st))) := by
  subst hp
  obtain ⟨locs, X, N, eh, K0, es, O, hws, hZ, ⟨k0, hS, hk⟩, C⟩ := W
  obtain ⟨T', h', cA, X', e', E, A, stp⟩ := RoadKit.newP X hx hZ w eh (g := mkF m pc ls (.int n :: st)) rfl hd rfl hn hcap hb hc hl
  exact Goes.go stp (K T' h' _ cA ⟨locs, X', N, e', K0.ext E, es, O, hws, hZ, ⟨k0, hS, Nat.le_trans hk E.1⟩, C.trans (CHr.ext E C.1)⟩ E rfl ((Arv.new A hn).pad (pad_rep [] _ cap)) fun B => Safe.new (Nat.le_refl _) ((C.1.step fun _ _ _ q => E.2 _ _ q).2 _ B))
theorem Wk.castore (W : Wk p l e R s m args below meth c Z EL h0 ws vm0 T h cells slots) (hx : p.tables.exec = Jvm.exec) {a : Addr} {k : ClassId} {n : Int32} {vs : List Value} {d : Value} (V : Arv Z h a k .char n vs d) (ha : a ∈ ws ∨ h0.size ≤ a) {j : Int32} {x : Int32} (x' : Int32) (hn : nar .char x = x') (i : Nat) (hj : j.toNatClampNeg = i) (hin : ¬ j < 0 ∧ j < n) (hi : i < vs.length)
    (pc' : Nat) (hd : decode c.code pc = .ok (.castore, 1)) (hp : pc + 1 = pc')
    (K : ∀ (T' : State) (h' : Heap), Wk p l e R s m args below meth c Z EL h0 ws vm0 T' h' cells slots → Keep h h' [a] → CHr Z EL vm0 h vm0 h' → Arv Z h' a k .char n (vs.set i (.int x')) d → Goes p e below Post (T'.setTop (mkF m pc' ls st))) : Goes p e below Post (T.setTop (mkF m pc ls (.int x :: .int j :: .ref a :: st))) := by
  subst hp
  have hza := W.may ha
  obtain ⟨locs, X, N, eh, K0, es, O, hws, hZ, ⟨k0, hS, hk⟩, C⟩ := W
  obtain ⟨cl, A, q1, S, q3, H, G⟩ := V
  obtain ⟨T', h', X', e', Wr', stp⟩ := RoadKit.stC X hx hZ eh A (j := j) (inb_of S hin) (g := mkF m pc ls (.int x :: .int j :: .ref a :: st)) rfl rfl hd
  rw [show nar .char x = x' from hn] at Wr'
  have C1 := CHr.wr Wr' (Safe.arr hZ.alike A (by intro q; cases q)) C.1
  exact Goes.go stp (K T' h' ⟨_, X', Fr.snoc X' N hza, e', K0.wr Wr' ha, es, O, hws, hZ, ⟨k0, hS, Nat.le_trans hk (Keep.of_wr Wr').1⟩, C.trans C1⟩ (Keep.of_wr Wr') C1 (Arv.set A q1 S q3 H G (by rw [← hn]; exact fits_nar_char _) Wr' i hj hi))
theorem Wk.iastore (W : Wk p l e R s m args below meth c Z EL h0 ws vm0 T h cells slots) (hx : p.tables.exec = Jvm.exec) {a : Addr} {k : ClassId} {n : Int32} {vs : List Value} {d : Value} (V : Arv Z h a k .int n vs d) (ha : a ∈ ws ∨ h0.size ≤ a) {j : Int32} {x : Int32} (x' : Int32) (hn : x = x') (i : Nat) (hj : j.toNatClampNeg = i) (hin : ¬ j < 0 ∧ j < n) (hi : i < vs.length)
    (pc' : Nat) (hd : decode c.code pc = .ok (.iastore, 1)) (hp : pc + 1 = pc')
    (K : ∀ (T' : State) (h' : Heap), Wk p l e R s m args below meth c Z EL h0 ws vm0 T' h' cells slots → Keep h h' [a] → CHr Z EL vm0 h vm0 h' → Arv Z h' a k .int n (vs.set i (.int x')) d → Goes p e below Post (T'.setTop (mkF m pc' ls st))) : Goes p e below Post (T.setTop (mkF m pc ls (.int x :: .int j :: .ref a :: st))) := by
  subst hp
  have hza := W.may ha
  obtain ⟨locs, X, N, eh, K0, es, O, hws, hZ, ⟨k0, hS, hk⟩, C⟩ := W
  obtain ⟨cl, A, q1, S, q3, H, G⟩ := V
  obtain ⟨T', h', X', e', Wr', stp⟩ := RoadKit.stI X hx hZ eh A (j := j) (inb_of S hin) (g := mkF m pc ls (.int x :: .int j :: .ref a :: st)) rfl rfl hd
  rw [show x = x' from hn] at Wr'
  have C1 := CHr.wr Wr' (Safe.arr hZ.alike A (by intro q; cases q)) C.1
  exact Goes.go stp (K T' h' ⟨_, X', Fr.snoc X' N hza, e', K0.wr Wr' ha, es, O, hws, hZ, ⟨k0, hS, Nat.le_trans hk (Keep.of_wr Wr').1⟩, C.trans C1⟩ (Keep.of_wr Wr') C1 (Arv.set A q1 S q3 H G (rfl) Wr' i hj hi))
theorem Wk.lastore (W : Wk p l e R s m args below meth c Z EL h0 ws vm0 T h cells slots) (hx : p.tables.exec = Jvm.exec) {a : Addr} {k : ClassId} {n : Int32} {vs : List Value} {d : Value} (V : Arv Z h a k .long n vs d) (ha : a ∈ ws ∨ h0.size ≤ a) {j : Int32} {x : Int64} (x' : Int64) (hn : x = x') (i : Nat) (hj : j.toNatClampNeg = i) (hin : ¬ j < 0 ∧ j < n) (hi : i < vs.length)
    (pc' : Nat) (hd : decode c.code pc = .ok (.lastore, 1)) (hp : pc + 1 = pc')
    (K : ∀ (T' : State) (h' : Heap), Wk p l e R s m args below meth c Z EL h0 ws vm0 T' h' cells slots → Keep h h' [a] → CHr Z EL vm0 h vm0 h' → Arv Z h' a k .long n (vs.set i (.long x')) d → Goes p e below Post (T'.setTop (mkF m pc' ls st))) : Goes p e below Post (T.setTop (mkF m pc ls (.long x :: .int j :: .ref a :: st))) := by
  subst hp
  have hza := W.may ha
  obtain ⟨locs, X, N, eh, K0, es, O, hws, hZ, ⟨k0, hS, hk⟩, C⟩ := W
  obtain ⟨cl, A, q1, S, q3, H, G⟩ := V
  obtain ⟨T', h', X', e', Wr', stp⟩ := RoadKit.stJ X hx hZ eh A (j := j) (inb_of S hin) (g := mkF m pc ls (.long x :: .int j :: .ref a :: st)) rfl rfl hd
  rw [show x = x' from hn] at Wr'
  have C1 := CHr.wr Wr' (Safe.arr hZ.alike A (by intro q; cases q)) C.1
  exact Goes.go stp (K T' h' ⟨_, X', Fr.snoc X' N hza, e', K0.wr Wr' ha, es, O, hws, hZ, ⟨k0, hS, Nat.le_trans hk (Keep.of_wr Wr').1⟩, C.trans C1⟩ (Keep.of_wr Wr') C1 (Arv.set A q1 S q3 H G (rfl) Wr' i hj hi))
theorem Wk.bastore (W : Wk p l e R s m args below meth c Z EL h0 ws vm0 T h cells slots) (hx : p.tables.exec = Jvm.exec) {a : Addr} {k : ClassId} {n : Int32} {vs : List Value} {d : Value} (V : Arv Z h a k .byte n vs d) (ha : a ∈ ws ∨ h0.size ≤ a) (sf : Safe Z EL vm0 h a) {j : Int32} {x : Int32} (x' : Int32) (hn : nar .byte x = x') (i : Nat) (hj : j.toNatClampNeg = i) (hin : ¬ j < 0 ∧ j < n) (hi : i < vs.length)
    (pc' : Nat) (hd : decode c.code pc = .ok (.bastore, 1)) (hp : pc + 1 = pc')
    (K : ∀ (T' : State) (h' : Heap), Wk p l e R s m args below meth c Z EL h0 ws vm0 T' h' cells slots → Keep h h' [a] → CHr Z EL vm0 h vm0 h' → Arv Z h' a k .byte n (vs.set i (.int x')) d → Goes p e below Post (T'.setTop (mkF m pc' ls st))) : Goes p e below Post (T.setTop (mkF m pc ls (.int x :: .int j :: .ref a :: st))) := by
  subst hp
  have hza := W.may ha
  obtain ⟨locs, X, N, eh, K0, es, O, hws, hZ, ⟨k0, hS, hk⟩, C⟩ := W
  obtain ⟨cl, A, q1, S, q3, H, G⟩ := V
  obtain ⟨T', h', X', e', Wr', stp⟩ := RoadKit.stB X hx hZ eh A (j := j) (inb_of S hin) (g := mkF m pc ls (.int x :: .int j :: .ref a :: st)) rfl rfl hd
  rw [show nar .byte x = x' from hn] at Wr'
  have C1 := CHr.wr Wr' sf C.1
  exact Goes.go stp (K T' h' ⟨_, X', Fr.snoc X' N hza, e', K0.wr Wr' ha, es, O, hws, hZ, ⟨k0, hS, Nat.le_trans hk (Keep.of_wr Wr').1⟩, C.trans C1⟩ (Keep.of_wr Wr') C1 (Arv.set A q1 S q3 H G (by rw [← hn]; exact fits_nar_byte _) Wr' i hj hi))
theorem Wk.caload (W : Wk p l e R s m args below meth c Z EL h0 ws vm0 T h cells slots) (hx : p.tables.exec = Jvm.exec) {a : Addr} {k : ClassId} {n : Int32} {vs : List Value} {d : Value} (V : Arv Z h a k .char n vs d) {j : Int32} (hin : ¬ j < 0 ∧ j < n) (v : Value) (hv : vs.getD j.toNatClampNeg d = v)
    (pc' : Nat) (hd : decode c.code pc = .ok (.caload, 1)) (hp : pc + 1 = pc') (K : Goes p e below Post (T.setTop (mkF m pc' ls (v :: st)))) : Goes p e below Post (T.setTop (mkF m pc ls (.int j :: .ref a :: st))) := by
  subst hp
  obtain ⟨locs, X, N, eh, K0, es, O, hws, hZ, -, C⟩ := W
  obtain ⟨cl, A, q1, S, q3, H, G⟩ := V
  exact Goes.go (fun tg k => X.caload hx (j := j) (v := v) (by rw [eh]; exact A.1) (State.isArrayOf_alike hZ.alike A.2.1) A.2.2 (inb_of S hin) (H.at (inb_of S hin) hv) (g := mkF m pc ls (.int j :: .ref a :: st)) rfl rfl hd tg k) K
theorem Wk.iaload (W : Wk p l e R s m args below meth c Z EL h0 ws vm0 T h cells slots) (hx : p.tables.exec = Jvm.exec) {a : Addr} {k : ClassId} {n : Int32} {vs : List Value} {d : Value} (V : Arv Z h a k .int n vs d) {j : Int32} (hin : ¬ j < 0 ∧ j < n) (v : Value) (hv : vs.getD j.toNatClampNeg d = v)
    (pc' : Nat) (hd : decode c.code pc = .ok (.iaload, 1)) (hp : pc + 1 = pc') (K : Goes p e below Post (T.setTop (mkF m pc' ls (v :: st)))) : Goes p e below Post (T.setTop (mkF m pc ls (.int j :: .ref a :: st))) := by
  subst hp
  obtain ⟨locs, X, N, eh, K0, es, O, hws, hZ, -, C⟩ := W
  obtain ⟨cl, A, q1, S, q3, H, G⟩ := V
  exact Goes.go (fun tg k => X.iaload hx (j := j) (v := v) (by rw [eh]; exact A.1) (State.isArrayOf_alike hZ.alike A.2.1) A.2.2 (inb_of S hin) (H.at (inb_of S hin) hv) (g := mkF m pc ls (.int j :: .ref a :: st)) rfl rfl hd tg k) K
theorem Wk.laload (W : Wk p l e R s m args below meth c Z EL h0 ws vm0 T h cells slots) (hx : p.tables.exec = Jvm.exec) {a : Addr} {k : ClassId} {n : Int32} {vs : List Value} {d : Value} (V : Arv Z h a k .long n vs d) {j : Int32} (hin : ¬ j < 0 ∧ j < n) (v : Value) (hv : vs.getD j.toNatClampNeg d = v)
    (pc' : Nat) (hd : decode c.code pc = .ok (.laload, 1)) (hp : pc + 1 = pc') (K : Goes p e below Post (T.setTop (mkF m pc' ls (v :: st)))) : Goes p e below Post (T.setTop (mkF m pc ls (.int j :: .ref a :: st))) := by
  subst hp
  obtain ⟨locs, X, N, eh, K0, es, O, hws, hZ, -, C⟩ := W
  obtain ⟨cl, A, q1, S, q3, H, G⟩ := V
  exact Goes.go (fun tg k => X.laload hx (j := j) (v := v) (by rw [eh]; exact A.1) (State.isArrayOf_alike hZ.alike A.2.1) A.2.2 (inb_of S hin) (H.at (inb_of S hin) hv) (g := mkF m pc ls (.int j :: .ref a :: st)) rfl rfl hd tg k) K
theorem Wk.baload (W : Wk p l e R s m args below meth c Z EL h0 ws vm0 T h cells slots) (hx : p.tables.exec = Jvm.exec) {a : Addr} {k : ClassId} {n : Int32} {vs : List Value} {d : Value} (V : Arv Z h a k .byte n vs d) {j : Int32} (hin : ¬ j < 0 ∧ j < n) (v : Value) (hv : vs.getD j.toNatClampNeg d = v)
    (pc' : Nat) (hd : decode c.code pc = .ok (.baload, 1)) (hp : pc + 1 = pc') (K : Goes p e below Post (T.setTop (mkF m pc' ls (v :: st)))) : Goes p e below Post (T.setTop (mkF m pc ls (.int j :: .ref a :: st))) := by
  subst hp
  obtain ⟨locs, X, N, eh, K0, es, O, hws, hZ, -, C⟩ := W
  obtain ⟨cl, A, q1, S, q3, H, G⟩ := V
  exact Goes.go (fun tg k => X.baloadBytes hx (j := j) (v := v) (by rw [eh]; exact A.1) (State.isArrayOf_alike hZ.alike A.2.1) A.2.2 (inb_of S hin) (H.at (inb_of S hin) hv) (g := mkF m pc ls (.int j :: .ref a :: st)) rfl rfl hd tg k) K
theorem Wk.arraylength (W : Wk p l e R s m args below meth c Z EL h0 ws vm0 T h cells slots) (hx : p.tables.exec = Jvm.exec) {a : Addr} {k : ClassId} {ty : FieldType} {n : Int32} {vs : List Value} {d : Value} (V : Arv Z h a k ty n vs d)
    (pc' : Nat) (hd : decode c.code pc = .ok (.arraylength, 1)) (hp : pc + 1 = pc') (K : Goes p e below Post (T.setTop (mkF m pc' ls (.int n :: st)))) : Goes p e below Post (T.setTop (mkF m pc ls (.ref a :: st))) := by
  subst hp
  obtain ⟨locs, X, N, eh, K0, es, O, hws, hZ, -, C⟩ := W
  obtain ⟨cl, A, q1, S, q3, H, G⟩ := V
  refine Goes.go (fun tg k => X.arraylength hx (by rw [eh]; exact A.1) (State.isArrayOf_alike hZ.alike A.2.1) (g := mkF m pc ls (.ref a :: st)) rfl rfl hd tg ?_) K
  rw [len_of S q3]; exact k
theorem Wk.getF (W : Wk p l e R s m args below meth c Z EL h0 ws vm0 T h cells slots) (hx : p.tables.exec = Jvm.exec) (ho : Z.vm.findClass own = some m.cls) {R0 O n d host : String} {index : Nat} (w : (Cond.fieldLink own index R0 n d).before a0 Z = true ∨ (Cond.fieldLinkNest own index R0 n d host).before a0 Z = true) (via : Via Z R0 O n d)
    {a : Addr} {v : Value} (F : Fld Z h a O n d v) (pc' : Nat) (hd : decode c.code pc = .ok (.getfield index, 3)) (hp : pc + 3 = pc')
    (K : ∀ (T' : State), Wk p l e R s m args below meth c Z EL h0 ws vm0 T' h cells slots → Goes p e below Post (T'.setTop (mkF m pc' ls (v :: st)))) : Goes p e below Post (T.setTop (mkF m pc ls (.ref a :: st))) := by
  subst hp
  have ho' := W.wown ho
  obtain ⟨locs, X, N, eh, r⟩ := W
  obtain ⟨hK0, hes, hO, hws, hZ, r2⟩ := r
  obtain ⟨T', X', e', stp⟩ := RoadKit.getF X hx hZ ho' w via eh F (g := mkF m pc ls (.ref a :: st)) rfl rfl hd
  exact Goes.go stp (K T' ⟨locs, X', N, e', hK0, hes, hO, hws, hZ, r2⟩)
theorem Wk.getS (W : Wk p l e R s m args below meth c Z EL h0 ws vm0 T h cells slots) (hx : p.tables.exec = Jvm.exec) (ho : Z.vm.findClass own = some m.cls) {R0 O n d : String} {index : Nat} (w : (Cond.fieldLink own index R0 n d).before a0 Z = true) (via : Via Z R0 O n d)
    {v : Value} (F : Sta Z h O n d v) (pc' : Nat) (hd : decode c.code pc = .ok (.getstatic index, 3)) (hp : pc + 3 = pc')
    (K : ∀ (T' : State), Wk p l e R s m args below meth c Z EL h0 ws vm0 T' h cells slots → Goes p e below Post (T'.setTop (mkF m pc' ls (v :: st)))) : Goes p e below Post (T.setTop (mkF m pc ls st)) := by
  subst hp
  have ho' := W.wown ho
  obtain ⟨locs, X, N, eh, r⟩ := W
  obtain ⟨hK0, hes, hO, hws, hZ, r2⟩ := r
  obtain ⟨T', X', e', stp⟩ := RoadKit.getS (host := "") X hx hZ ho' w via eh F (g := mkF m pc ls st) rfl hd
  exact Goes.go stp (K T' ⟨locs, X', N, e', hK0, hes, hO, hws, hZ, r2⟩)
theorem Wk.putF (W : Wk p l e R s m args below meth c Z EL h0 ws vm0 T h cells slots) (hx : p.tables.exec = Jvm.exec) (ho : Z.vm.findClass own = some m.cls) {R0 O n d C : String} {index kk : Nat} {ty : FieldType} (w : (Cond.fieldLink own index R0 n d).before a0 Z = true) (via : Via Z R0 O n d)
    {a : Addr} {v old : Value} (v' : Value) (F : Fld Z h a O n d old) (E : Exa Z h a C) (L : (Cond.lays C O n d).before a0 Z = true ∨ ((Cond.laysFinal C O n d).before a0 Z = true ∧ own = O ∧ meth.name = "<init>")) (wi : (Cond.instantiable C kk).before a0 Z = true)
    (hty : parseFieldDescriptor d = some ty) (hn : narrow ty v = v') (hf : fits ty v' = true) (ha : a ∈ ws ∨ h0.size ≤ a) (sf : Safe Z EL vm0 h a) (pc' : Nat) (hd : decode c.code pc = .ok (.putfield index, 3)) (hp : pc + 3 = pc')
    (K : ∀ (T' : State) (h' : Heap), Wk p l e R s m args below meth c Z EL h0 ws vm0 T' h' cells slots → Wr h h' a (RoadKit.slotOf Z O n d) v' → CHr Z EL vm0 h vm0 h' → Goes p e below Post (T'.setTop (mkF m pc' ls st))) : Goes p e below Post (T.setTop (mkF m pc ls (v :: .ref a :: st))) := by
  subst hp
  have hza := W.may ha
  have ho' := W.wown ho
  obtain ⟨locs, X, N, eh, K0, es, O', hws, hZ, ⟨k0, hS, hk⟩, C'⟩ := W
  obtain ⟨T', h', X', e', Wr', stp⟩ := RoadKit.putFN X hx hZ ho' w via eh F E L wi hty hn hf (g := mkF m pc ls (v :: .ref a :: st)) rfl rfl hd
  have C1 := CHr.wr Wr' sf C'.1
  exact Goes.go stp (K T' h' ⟨_, X', Fr.snoc X' N hza, e', K0.wr Wr' ha, es, O', hws, hZ, ⟨k0, hS, Nat.le_trans hk (Keep.of_wr Wr').1⟩, C'.trans C1⟩ Wr' C1)
theorem Wk.initO (W : Wk p l e R s m args below meth c Z EL h0 ws vm0 T h cells slots) (hx : p.tables.exec = Jvm.exec) (ho : Z.vm.findClass own = some m.cls) {index : Nat} (w1 : (Cond.methodLink own index Lib.objectInit).before a0 Z = true) (w2 : (Cond.instanceMethod Lib.objectInit).before a0 Z = true) (w3 : (Cond.code Lib.objectInit ⟨#[0xb1]⟩ 1 none).before a0 Z = true)
    (hsz : ls.size = c.maxLocals) {a : Addr} (pc' : Nat) (hd : decode c.code pc = .ok (.invokespecial index, 3)) (hp : pc + 3 = pc') (hf : 1 ≤ R.frames) (Wd : Nat) (hW : (st.map fun v => v.category).sum ≤ Wd) (hl : Wd + 12 ≤ R.locals)
    (K : ∀ (T' : State), Wk p l e R s m args below meth c Z EL h0 ws vm0 T' h cells slots → Goes p e below Post (T'.setTop (mkF m pc' ls st))) : Goes p e below Post (T.setTop (mkF m pc ls (.ref a :: st))) := by
  subst hp
  have ho' := W.wown ho
  obtain ⟨locs, X, N, eh, r⟩ := W
  obtain ⟨hK0, hes, hO, hws, hZ, r2⟩ := r
  obtain ⟨T', X', e', stp⟩ := RoadKit.initO X hx hZ ho' w1 w2 w3 eh (g := mkF m pc ls (.ref a :: st)) rfl hsz rfl hd hf (W := Wd) (by show 2 * 0 + _ ≤ _; omega) hl
  exact Goes.go stp (K T' ⟨locs, X', N, e', hK0, hes, hO, hws, hZ, r2⟩)
theorem Wk.ldcI (W : Wk p l e R s m args below meth c Z EL h0 ws vm0 T h cells slots) (hx : p.tables.exec = Jvm.exec) (ho : Z.vm.findClass own = some m.cls) {index : Nat} {v : Int32} (w : (Cond.constant own index v).before a0 Z = true)
    (pc' : Nat) (hd : decode c.code pc = .ok (.ldc index, 2)) (hp : pc + 2 = pc') (K : Goes p e below Post (T.setTop (mkF m pc' ls (.int v :: st)))) : Goes p e below Post (T.setTop (mkF m pc ls st)) := by
  subst hp
  have ho' := W.wown ho
  have hZ := W.warm
  obtain ⟨locs, X, r⟩ := W
  exact Goes.go (X.ldcInt hx ho' (mvT (s := s.setVm vm0) hZ w) (g := mkF m pc ls st) rfl hd) K
theorem Wk.ldc2 (W : Wk p l e R s m args below meth c Z EL h0 ws vm0 T h cells slots) (hx : p.tables.exec = Jvm.exec) (ho : Z.vm.findClass own = some m.cls) {index : Nat} {v : Int64} (w : (Cond.constantLong own index v).before a0 Z = true)
    (pc' : Nat) (hd : decode c.code pc = .ok (.ldc2_w index, 3)) (hp : pc + 3 = pc') (K : Goes p e below Post (T.setTop (mkF m pc' ls (.long v :: st)))) : Goes p e below Post (T.setTop (mkF m pc ls st)) := by
  subst hp
  have ho' := W.wown ho
  have hZ := W.warm
  obtain ⟨locs, X, r⟩ := W
  exact Goes.go (X.ldc2Long hx ho' (mvT (s := s.setVm vm0) hZ w) (g := mkF m pc ls st) rfl hd) K
theorem Wk.castY (W : Wk p l e R s m args below meth c Z EL h0 ws vm0 T h cells slots) (hx : p.tables.exec = Jvm.exec) (ho : Z.vm.findClass own = some m.cls) {C : String} {index : Nat} (w : (Cond.classLink own index C).before a0 Z = true) {a : Addr} (F : Ins Z h a C true)
    (pc' : Nat) (hd : decode c.code pc = .ok (.checkcast index, 3)) (hp : pc + 3 = pc') (K : ∀ (T' : State), Wk p l e R s m args below meth c Z EL h0 ws vm0 T' h cells slots → Goes p e below Post (T'.setTop (mkF m pc' ls (.ref a :: st)))) : Goes p e below Post (T.setTop (mkF m pc ls (.ref a :: st))) := by
  subst hp
  have ho' := W.wown ho
  obtain ⟨locs, X, N, eh, r⟩ := W
  obtain ⟨hK0, hes, hO, hws, hZ, r2⟩ := r
  obtain ⟨T', X', e', stp⟩ := RoadKit.castY X hx hZ ho' w eh F (g := mkF m pc ls (.ref a :: st)) rfl rfl hd
  exact Goes.go stp (K T' ⟨locs, X', N, e', hK0, hes, hO, hws, hZ, r2⟩)
theorem Wk.instY (W : Wk p l e R s m args below meth c Z EL h0 ws vm0 T h cells slots) (hx : p.tables.exec = Jvm.exec) (ho : Z.vm.findClass own = some m.cls) {C : String} {index : Nat} (w : (Cond.classLink own index C).before a0 Z = true) {a : Addr} (F : Ins Z h a C true)
    (pc' : Nat) (hd : decode c.code pc = .ok (.instanceof index, 3)) (hp : pc + 3 = pc') (K : ∀ (T' : State), Wk p l e R s m args below meth c Z EL h0 ws vm0 T' h cells slots → Goes p e below Post (T'.setTop (mkF m pc' ls (.int 1 :: st)))) : Goes p e below Post (T.setTop (mkF m pc ls (.ref a :: st))) := by
  subst hp
  have ho' := W.wown ho
  obtain ⟨locs, X, N, eh, r⟩ := W
  obtain ⟨hK0, hes, hO, hws, hZ, r2⟩ := r
  obtain ⟨T', X', e', stp⟩ := RoadKit.instY X hx hZ ho' w eh F (g := mkF m pc ls (.ref a :: st)) rfl rfl hd
  exact Goes.go stp (K T' ⟨locs, X', N, e', hK0, hes, hO, hws, hZ, r2⟩)
theorem Wk.castNull (W : Wk p l e R s m args below meth c Z EL h0 ws vm0 T h cells slots) (hx : p.tables.exec = Jvm.exec) {index : Nat} (pc' : Nat) (hd : decode c.code pc = .ok (.checkcast index, 3)) (hp : pc + 3 = pc') (K : Goes p e below Post (T.setTop (mkF m pc' ls (.null :: st)))) : Goes p e below Post (T.setTop (mkF m pc ls (.null :: st))) := by
  subst hp
  obtain ⟨locs, X, r⟩ := W
  exact Goes.go (X.checkcastNull hx (g := mkF m pc ls (.null :: st)) rfl rfl hd) K
theorem Wk.instNull (W : Wk p l e R s m args below meth c Z EL h0 ws vm0 T h cells slots) (hx : p.tables.exec = Jvm.exec) {index : Nat} (pc' : Nat) (hd : decode c.code pc = .ok (.instanceof index, 3)) (hp : pc + 3 = pc') (K : Goes p e below Post (T.setTop (mkF m pc' ls (.int 0 :: st)))) : Goes p e below Post (T.setTop (mkF m pc ls (.null :: st))) := by
  subst hp
  obtain ⟨locs, X, r⟩ := W
  exact Goes.go (X.instanceofNull hx (g := mkF m pc ls (.null :: st)) rfl rfl hd) K
theorem Wk.instNo (W : Wk p l e R s m args below meth c Z EL h0 ws vm0 T h cells slots) (hx : p.tables.exec = Jvm.exec) (ho : Z.vm.findClass own = some m.cls) {C D : String} {index : Nat} (w : (Cond.classLink own index D).before a0 Z = true) {a : Addr} (E : Exa Z h a C) (F : ∃ c t, Z.vm.findClass C = some c ∧ Z.vm.findClass D = some t ∧ Z.vm.assignable c t = false)
    (pc' : Nat) (hd : decode c.code pc = .ok (.instanceof index, 3)) (hp : pc + 3 = pc') (K : ∀ (T' : State), Wk p l e R s m args below meth c Z EL h0 ws vm0 T' h cells slots → Goes p e below Post (T'.setTop (mkF m pc' ls (.int 0 :: st)))) : Goes p e below Post (T.setTop (mkF m pc ls (.ref a :: st))) := by
  subst hp
  have ho' := W.wown ho
  obtain ⟨locs, X, N, eh, r⟩ := W
  obtain ⟨hK0, hes, hO, hws, hZ, r2⟩ := r
  obtain ⟨T', X', e', stp⟩ := RoadKit.instNo X hx hZ ho' w eh E F (g := mkF m pc ls (.ref a :: st)) rfl rfl hd
  exact Goes.go stp (K T' ⟨locs, X', N, e', hK0, hes, hO, hws, hZ, r2⟩)
theorem Wk.newR (W : Wk p l e R s m args below meth c Z EL h0 ws vm0 T h cells slots) (hx : p.tables.exec = Jvm.exec) (ho : Z.vm.findClass own = some m.cls) {C : String} {index : Nat} (w1 : (Cond.classLink own index C).before a0 Z = true) (w2 : (Cond.arrayOver (.object C)).before a0 Z = true)
    (pc' : Nat) (hd : decode c.code pc = .ok (.anewarray index, 3)) {n : Int32} (hn : ¬ n < 0) (cap : Nat) (hcap : n.toNatClampNeg ≤ cap) (hp : pc + 3 = pc') (hb : cap * 8 ≤ 536870912) (hc : cells + 1 ≤ R.cells) (hl : slots + cap ≤ R.slots)
    (K : ∀ (T' : State) (h' : Heap) (a : Addr) (k : ClassId), Wk p l e R s m args below meth c Z EL h0 ws vm0 T' h' (cells + 1) (slots + cap) → Ext h h' → a = h.size → Arv Z h' a k (.object C) n (List.replicate cap .null) .null → Ovr Z k C → Safe Z EL vm0 h' a → Goes p e below Post (T'.setTop (mkF m pc' ls (.ref a :: st)))) : Goes p e below Post (T.setTop (mkF m pc ls (.int n :: st))) := by
  subst hp
  have ho' := W.wown ho
  obtain ⟨locs, X, N, eh, K0, es, O, hws, hZ, ⟨k0, hS, hk⟩, C'⟩ := W
  obtain ⟨T', h', cA, X', e', E, A, Ov, stp⟩ := RoadKit.newR X hx hZ ho' w1 w2 eh (g := mkF m pc ls (.int n :: st)) rfl hd rfl hn hcap hb hc hl
  exact Goes.go stp (K T' h' _ cA ⟨locs, X', N, e', K0.ext E, es, O, hws, hZ, ⟨k0, hS, Nat.le_trans hk E.1⟩, C'.trans (CHr.ext E C'.1)⟩ E rfl ((Arv.new A hn).pad (pad_rep [] _ cap)) Ov fun B => Safe.new (Nat.le_refl _) ((C'.1.step fun _ _ _ q => E.2 _ _ q).2 _ B))
theorem Wk.aastore (W : Wk p l e R s m args below meth c Z EL h0 ws vm0 T h cells slots) (hx : p.tables.exec = Jvm.exec) {a : Addr} {k : ClassId} {n : Int32} {vs : List Value} {d : Value} {C : String} (V : Arv Z h a k (.object C) n vs d) (ha : a ∈ ws ∨ h0.size ≤ a) {j : Int32} {x : Value} (hxr : x.isRef = true) (hst : ∀ cl : Cell, Arr Z h a cl (.object C) → cl.cls = k → Sto Z h a x) (i : Nat) (hj : j.toNatClampNeg = i) (hin : ¬ j < 0 ∧ j < n) (hi : i < vs.length)
    (pc' : Nat) (hd : decode c.code pc = .ok (.aastore, 1)) (hp : pc + 1 = pc')
    (K : ∀ (T' : State) (h' : Heap), Wk p l e R s m args below meth c Z EL h0 ws vm0 T' h' cells slots → Keep h h' [a] → CHr Z EL vm0 h vm0 h' → Arv Z h' a k (.object C) n (vs.set i x) d → Goes p e below Post (T'.setTop (mkF m pc' ls st))) : Goes p e below Post (T.setTop (mkF m pc ls (x :: .int j :: .ref a :: st))) := by
  subst hp
  have hza := W.may ha
  obtain ⟨locs, X, N, eh, K0, es, O, hws, hZ, ⟨k0, hS, hk⟩, C'⟩ := W
  obtain ⟨cl, A, q1, S, q3, H, G⟩ := V
  obtain ⟨T', h', X', e', Wr', stp⟩ := RoadKit.stR X hx hZ eh A (j := j) (inb_of S hin) rfl (hst cl A q1) (g := mkF m pc ls (x :: .int j :: .ref a :: st)) rfl rfl hd
  have C1 := CHr.wr Wr' (Safe.arr hZ.alike A (by intro q; cases q)) C'.1
  exact Goes.go stp (K T' h' ⟨_, X', Fr.snoc X' N hza, e', K0.wr Wr' ha, es, O, hws, hZ, ⟨k0, hS, Nat.le_trans hk (Keep.of_wr Wr').1⟩, C'.trans C1⟩ (Keep.of_wr Wr') C1 (Arv.set A q1 S q3 H G (by cases x <;> simp [Value.isRef] at hxr <;> rfl) Wr' i hj hi))
theorem Wk.arraycopy (W : Wk p l e R s m args below meth c Z EL h0 ws vm0 T h cells slots) (hx : p.tables.exec = Jvm.exec) (ho : Z.vm.findClass own = some m.cls) {index : Nat} (w1 : (Cond.methodLink own index Jvm.Stand.acN).before a0 Z = true) (w2 : (Cond.native Jvm.Stand.acN).before a0 Z = true) (w3 : (Cond.static Jvm.Stand.acN).before a0 Z = true) (w4 : (Cond.initialized "java/lang/System").before a0 Z = true)
    {a b : Addr} {k k' : ClassId} {ty : FieldType} {z z' sp dp nn : Int32} {vs vd : List Value} {dv dd : Value} (us : List Value) (V : Arv Z h a k ty z vs dv) (B : Arv Z h b k' ty z' vd dd) (hty : refKind ty = false) (h1 : ¬ sp < 0) (h2 : ¬ dp < 0) (h3 : ¬ nn < 0) (h4 : sp.toNatClampNeg + nn.toNatClampNeg ≤ z.toNatClampNeg) (h5 : dp.toNatClampNeg + nn.toNatClampNeg ≤ z'.toNatClampNeg)
    (hus : us = (List.range nn.toNatClampNeg).map fun i => vs.getD (sp.toNatClampNeg + i) dv) (hl : dp.toNatClampNeg + nn.toNatClampNeg ≤ vd.length) (hb : b ∈ ws ∨ h0.size ≤ b) (sf : Safe Z EL vm0 h b) (hsz : ls.size = c.maxLocals) (pc' : Nat) (hd : decode c.code pc = .ok (.invokestatic index, 3)) (hp : pc + 3 = pc') (hf : 1 ≤ R.frames) (Wd : Nat) (hW : (st.map fun v => v.category).sum ≤ Wd) (hlo : Wd + (nativeFrameWords "java/lang/System" "arraycopy" 5 + 11) ≤ R.locals)
    (K : ∀ (T' : State) (h' : Heap), Wk p l e R s m args below meth c Z EL h0 ws vm0 T' h' cells slots → Keep h h' [b] → CHr Z EL vm0 h vm0 h' → Arv Z h' b k' ty z' (vd.take dp.toNatClampNeg ++ us ++ vd.drop (dp.toNatClampNeg + nn.toNatClampNeg)) dd → Goes p e below Post (T'.setTop (mkF m pc' ls st))) : Goes p e below Post (T.setTop (mkF m pc ls (.int nn :: .int dp :: .ref b :: .int sp :: .ref a :: st))) := by
  subst hp
  have hzb := W.may hb
  have ho' := W.wown ho
  obtain ⟨locs, X, N, eh, K0, es, O, hws, hZ, ⟨k0, hS, hk⟩, C⟩ := W
  obtain ⟨T', h', L, X', e', N', K', B', stp⟩ := cpA X hx hZ ho' w1 w2 w3 w4 eh V B (Or.inl ⟨rfl, hty⟩) h1 h2 h3 h4 h5 hus hl N hzb (g := mkF m pc ls (.int nn :: .int dp :: .ref b :: .int sp :: .ref a :: st)) rfl hsz rfl hd hf (W := Wd) (by show 2 * 0 + _ ≤ _; omega) hlo
  have C1 := CHr.keep K' (fun x hx => by cases List.mem_singleton.mp hx; exact sf) C.1
  exact Goes.go stp (K T' h' ⟨L, X', N', e', K0.trans K' (fun x hx => by cases List.mem_singleton.mp hx; exact hb), es, O, hws, hZ, ⟨k0, hS, Nat.le_trans hk K'.1⟩, C.trans C1⟩ K' C1 B')
end Wk
/-- what a callee asks of the point and of its arguments; what it leaves -/
abbrev PreB (R : Room) (as' : Array Value) (h : Heap) (mc ms : Nat) : Pt → Array Value → Prop := fun A a => a = as' ∧ A.U.heap = h ∧ A.cells + mc ≤ R.cells ∧ A.slots + ms ≤ R.slots
abbrev PostB (Z : State) (h : Heap) (ws : List Addr) (Q : Option Value → Heap → Prop) (mc ms : Nat) : Pt → Array Value → Option Value → Pt → Prop := fun A _ v B => ∃ L, (Fr Z.heap.size L ∧ Keep h B.U.heap ws ∧ Q v B.U.heap) ∧ B.locs = A.locs ++ L ∧ B.cells = A.cells + mc ∧ B.slots = A.slots + ms
abbrev PostBW (Z : State) (EL : List (String × Nat)) (vm0 : Vm) (h : Heap) (ws : List Addr) (Q : Option Value → Heap → Prop) (mc ms : Nat) : Pt → Array Value → Option Value → Pt → Prop := fun A _ v B => ∃ L, (Fr Z.heap.size L ∧ Keep h B.U.heap ws ∧ Q v B.U.heap) ∧ B.locs = A.locs ++ L ∧ B.cells = A.cells + mc ∧ B.slots = A.slots + ms ∧ CHr Z EL vm0 h B.U.vm B.U.heap
/-- the end of a body that interns nothing -/
def PostN (s Z : State) (h0 : Heap) (ws : List Addr) (Q : Option Value → Heap → Prop) (mc ms : Nat) (o : Outcome) (U : State) : Prop :=
  ∃ v L, o = .returned v ∧ (Fr Z.heap.size L ∧ Keep h0 U.heap ws ∧ Q v U.heap) ∧ FrameEnd s o U L mc ms
/-- the end of a body that may intern -/
def PostW (s Z : State) (EL : List (String × Nat)) (h0 : Heap) (ws : List Addr) (Q : Option Value → Heap → Prop) (mc ms : Nat) (o : Outcome) (U : State) : Prop :=
  ∃ v L, o = .returned v ∧ (Fr Z.heap.size L ∧ Keep h0 U.heap ws ∧ Q v U.heap) ∧ CHr Z EL s.vm h0 U.vm U.heap ∧ ReturnedEndW s o U L mc ms
/-- the contract of a body that interns nothing -/
def CN (wl : List Cond) (l : Launch) (Z : State) (y : MethodName) (bytes : ByteArray) (ml : Nat) (ret : Option FieldType) (rm : Room) (as' : Array Value) (h0 : Heap) (ws : List Addr) (Q : Option Value → Heap → Prop) : Prop :=
  MetFree l y (head1 (Cond.code y bytes ml ret :: wl) rm) (fun a U => a = as' ∧ Z.Warmed39 U.vm ∧ U.heap = h0) (fun _ _ _ _ _ => True) (fun _ U o U' => PostN U Z h0 ws Q rm.cells rm.slots o U')
/-- the contract of a body that may intern -/
def CW (wl : List Cond) (l : Launch) (Z : State) (EL : List (String × Nat)) (y : MethodName) (bytes : ByteArray) (ml : Nat) (ret : Option FieldType) (rm : Room) (as' : Array Value) (h0 : Heap) (ws : List Addr) (Q : Option Value → Heap → Prop) : Prop :=
  MetFree l y (head1 (Cond.code y bytes ml ret :: wl) rm) (fun a U => a = as' ∧ Z.Warmed39 U.vm ∧ U.heap = h0 ∧ CHv Z EL U.vm h0 ∧ ∀ x ∈ ws, Safe Z EL U.vm h0 x) (fun _ _ _ _ _ => True) (fun _ U o U' => PostW U Z EL h0 ws Q rm.cells rm.slots o U')
section Calls
variable {p : Program} {l : Launch} {e : Env} {R : Room} {s : State} {m : MethodId} {args : Array Value} {below : List Frame} {meth : Method} {c : Code} {Z : State} {EL : List (String × Nat)} {h0 : Heap} {ws : List Addr} {vm0 : Vm} {T : State} {h : Heap} {cells slots : Nat} {a0 : Array Value} {Post : Outcome → State → Prop} {pc : Nat} {ls : Array Slot} {st rest : List Value} {own : String}
theorem CN.back {y : MethodName} {bytes : ByteArray} {ml : Nat} {ret : Option FieldType} {rm : Room} {as' : Array Value} {len Wd : Nat} {Q : Option Value → Heap → Prop} (hM : CN [] l Z y bytes ml ret rm as' h ws Q) (hZ : Z.Warmed39 vm0) (wc : (Cond.code y bytes ml ret).before a0 Z = true) (wz : (Cond.initialized y.cls).before a0 Z = true) (hf : rm.frames + 1 ≤ R.frames) (hl : Wd + (ml + 11) + rm.locals ≤ R.locals) :
    Back l R p e below (s.setVm vm0) args y len Wd (PreB R as' h rm.cells rm.slots) (PostB Z h ws Q rm.cells rm.slots) :=
  backOf (s := s.setVm vm0) (Q := fun v h' L => Fr Z.heap.size L ∧ Keep h h' ws ∧ Q v h') hM hZ wc wz hf hl
theorem CW.back {y : MethodName} {bytes : ByteArray} {ml : Nat} {ret : Option FieldType} {rm : Room} {as' : Array Value} {len Wd : Nat} {Q : Option Value → Heap → Prop} (hM : CW [] l Z EL y bytes ml ret rm as' h ws Q) (hZ : Z.Warmed39 vm0) (wc : (Cond.code y bytes ml ret).before a0 Z = true) (wz : (Cond.initialized y.cls).before a0 Z = true) (hf : rm.frames + 1 ≤ R.frames) (hl : Wd + (ml + 11) + rm.locals ≤ R.locals)
    (hEL : EW Z a0 EL) (H : CHv Z EL vm0 h) (hlt : ∀ x ∈ ws, x < h.size) (hsf : ∀ x ∈ ws, Safe Z EL vm0 h x) :
    BackS l R p e below (s.setVm vm0) args y len Wd (PreB R as' h rm.cells rm.slots) (PostBW Z EL vm0 h ws Q rm.cells rm.slots) :=
  BackS.of_freeW (bytes := bytes) (maxL := ml) (ret := ret) (E := fun _ first o t L k n => k = rm.cells ∧ n = rm.slots ∧ (∃ v, o = .returned v ∧ (Fr Z.heap.size L ∧ Keep h t.heap ws ∧ Q v t.heap)) ∧ CHr Z EL first.vm h t.vm t.heap) hM hf hl
    (fun m meth c A a Y hp => have hU : Z.Warmed39 A.U.vm := wtrans (s := s.setVm vm0) hZ Y.warmed
      ⟨by show (Cond.and _ .tt).before a A.U = true; rw [Cond.before_and, mv hU wc]; rfl, mv hU wc, mv hU wz, hp.2.2.1, hp.2.2.2⟩)
    (fun m meth c A a g mk Y hp => ⟨hp.1, wtrans (s := s.setVm vm0) hZ Y.warmed, hp.2.1, (CHv.at Y hZ hEL H).1, fun x hx => (CHv.at Y hZ hEL H).safe (hlt x hx) (hsf x hx)⟩) (fun _ _ _ _ _ _ _ _ _ => trivial)
    (fun _ _ _ _ ⟨v, L, h1, h2, h3, h4⟩ => ⟨L, _, _, h4, rfl, rfl, ⟨v, h1, h2⟩, h3⟩)
    (fun m meth c A a g mk v t L k n Y hp _ _ ⟨e1, e2, ⟨v', e3, e4⟩, e5⟩ => by
      cases e3; subst e1 e2
      exact ⟨L, e4, rfl, rfl, rfl, (CHv.at Y hZ hEL H).trans e5⟩)
theorem Wk.callS (W : Wk p l e R s m args below meth c Z EL h0 ws vm0 T h cells slots) (hx : p.tables.exec = Jvm.exec) (ho : Z.vm.findClass own = some m.cls) {index : Nat} {y : MethodName} {bytes : ByteArray} {ml : Nat} {ret : Option FieldType} (w1 : (Cond.methodLink own index y).before a0 Z = true) (w2 : (Cond.static y).before a0 Z = true) (w3 : (Cond.initialized y.cls).before a0 Z = true) (w4 : (Cond.code y bytes ml ret).before a0 Z = true) (hy : y.cls ≠ "java/lang/invoke/MethodHandle" ∧ y.cls ≠ "java/lang/invoke/VarHandle")
    {Wd mc ms : Nat} {as' : Array Value} {ws' : List Addr} {Q : Option Value → Heap → Prop} (hK : Back l R p e below (s.setVm vm0) args y 3 Wd (PreB R as' h mc ms) (PostB Z h ws' Q mc ms)) (hsz : ls.size = c.maxLocals) (argsL rest : List Value) (hlen : ∀ sig, parseMethodDescriptor y.desc = some sig → argsL.length = sig.parameters.length) (hst : st = argsL.reverse ++ rest) (has : argsL.toArray = as') (hW : (rest.map fun v => v.category).sum ≤ Wd) (pc' : Nat) (hd : decode c.code pc = .ok (.invokestatic index, 3)) (hp : pc + 3 = pc') (hc : cells + mc ≤ R.cells) (hs : slots + ms ≤ R.slots) (hws' : ∀ x ∈ ws', (x ∈ ws ∨ h0.size ≤ x) ∧ Safe Z EL vm0 h x)
    (K : ∀ (v : Option Value) (T' : State) (h' : Heap), Wk p l e R s m args below meth c Z EL h0 ws vm0 T' h' (cells + mc) (slots + ms) → Keep h h' ws' → CHr Z EL vm0 h vm0 h' → Q v h' → Goes p e below Post (T'.setTop (mkF m pc' ls (v.toList ++ rest)))) : Goes p e below Post (T.setTop (mkF m pc ls st)) := by
  subst hp hst
  have ho' := W.wown ho
  obtain ⟨locs, X, N, eh, K0, es, O, hws, hZ, ⟨k0, hS, hk⟩, C⟩ := W
  obtain ⟨v, _, ⟨T1, L1', k1, n1⟩, -, X1, ⟨L1, ⟨q1, q2, q3⟩, l1, y1, z1⟩, stp⟩ := Jvm.LawKit.callS X hx ho' (mvT (s := s.setVm vm0) hZ w1) (mvT (s := s.setVm vm0) hZ w2) (mvT (s := s.setVm vm0) hZ w3) (mvT (s := s.setVm vm0) hZ w4) hy hK (g := mkF m pc ls (argsL.reverse ++ rest)) rfl hsz hlen rfl (by show 2 * 0 + _ ≤ _; omega) hd (fun _ _ => ⟨has, eh, hc, hs⟩)
  dsimp only [Pt.U, Pt.locs, Pt.cells, Pt.slots] at X1 l1 y1 z1 stp q1 q2 q3
  subst l1 y1 z1
  have C1 := CHr.keep q2 (fun x hx => (hws' x hx).2) C.1
  exact Goes.go stp (K v T1 T1.heap ⟨_, X1, N.app q1, rfl, K0.trans q2 (fun x hx => (hws' x hx).1), es, O, hws, hZ, ⟨k0, hS, Nat.le_trans hk q2.1⟩, C.trans C1⟩ q2 C1 q3)
theorem Wk.special (W : Wk p l e R s m args below meth c Z EL h0 ws vm0 T h cells slots) (hx : p.tables.exec = Jvm.exec) (ho : Z.vm.findClass own = some m.cls) {index : Nat} {y : MethodName} (hy1 : y.name = "<init>") {bytes : ByteArray} {ml : Nat} (w1 : (Cond.methodLink own index y).before a0 Z = true) (w2 : (Cond.instanceMethod y).before a0 Z = true) (w4 : (Cond.code y bytes ml none).before a0 Z = true) (hy : y.cls ≠ "java/lang/invoke/MethodHandle" ∧ y.cls ≠ "java/lang/invoke/VarHandle")
    {Wd mc ms : Nat} {as' : Array Value} {ws' : List Addr} {Q : Option Value → Heap → Prop} (hK : Back l R p e below (s.setVm vm0) args y 3 Wd (PreB R as' h mc ms) (PostB Z h ws' Q mc ms)) (a : Addr) (hsz : ls.size = c.maxLocals) (argsL rest : List Value) (hlen : ∀ sig, parseMethodDescriptor y.desc = some sig → argsL.length = sig.parameters.length) (hst : st = argsL.reverse ++ .ref a :: rest) (has : (Value.ref a :: argsL).toArray = as') (hW : (rest.map fun v => v.category).sum ≤ Wd) (pc' : Nat) (hd : decode c.code pc = .ok (.invokespecial index, 3)) (hp : pc + 3 = pc') (hc : cells + mc ≤ R.cells) (hs : slots + ms ≤ R.slots) (hws' : ∀ x ∈ ws', (x ∈ ws ∨ h0.size ≤ x) ∧ Safe Z EL vm0 h x)
    (K : ∀ (v : Option Value) (T' : State) (h' : Heap), Wk p l e R s m args below meth c Z EL h0 ws vm0 T' h' (cells + mc) (slots + ms) → Keep h h' ws' → CHr Z EL vm0 h vm0 h' → Q v h' → Goes p e below Post (T'.setTop (mkF m pc' ls (v.toList ++ rest)))) : Goes p e below Post (T.setTop (mkF m pc ls st)) := by
  subst hp hst
  have ho' := W.wown ho
  obtain ⟨locs, X, N, eh, K0, es, O, hws, hZ, ⟨k0, hS, hk⟩, C⟩ := W
  obtain ⟨v, _, ⟨T1, L1', k1, n1⟩, -, X1, ⟨L1, ⟨q1, q2, q3⟩, l1, y1, z1⟩, stp⟩ := X.specialBack hx hy1 ho' (mvT (s := s.setVm vm0) hZ w1) (mvT (s := s.setVm vm0) hZ w2) (mvT (s := s.setVm vm0) hZ w4) hy hK (g := mkF m pc ls (argsL.reverse ++ .ref a :: rest)) rfl hsz (Steps.refl _) hlen rfl (by show 2 * 0 + _ ≤ _; omega) hd (fun _ _ => ⟨has, eh, hc, hs⟩)
  dsimp only [Pt.U, Pt.locs, Pt.cells, Pt.slots] at X1 l1 y1 z1 stp q1 q2 q3
  subst l1 y1 z1
  have C1 := CHr.keep q2 (fun x hx => (hws' x hx).2) C.1
  exact Goes.run stp (K v T1 T1.heap ⟨_, X1, N.app q1, rfl, K0.trans q2 (fun x hx => (hws' x hx).1), es, O, hws, hZ, ⟨k0, hS, Nat.le_trans hk q2.1⟩, C.trans C1⟩ q2 C1 q3)
theorem Wk.virtual (W : Wk p l e R s m args below meth c Z EL h0 ws vm0 T h cells slots) (hx : p.tables.exec = Jvm.exec) (ho : Z.vm.findClass own = some m.cls) {index : Nat} {C' : String} {y z : MethodName} (w1 : (Cond.methodLink own index y).before a0 Z = true) (w2 : (Cond.declares y).before a0 Z = true) (w3 : (Cond.selects C' y z).before a0 Z = true) (w4 : (Cond.instanceMethod z).before a0 Z = true) (nf : NotFace (s.setVm vm0) y) (hy : y.cls ≠ "java/lang/invoke/MethodHandle" ∧ y.cls ≠ "java/lang/invoke/VarHandle")
    {Wd mc ms : Nat} {as' : Array Value} {ws' : List Addr} {Q : Option Value → Heap → Prop} (hK : Back l R p e below (s.setVm vm0) args z 3 Wd (PreB R as' h mc ms) (PostB Z h ws' Q mc ms)) {a : Addr} (E : Exa Z h a C') (hsz : ls.size = c.maxLocals) (argsL rest : List Value) (hlen : ∀ sig, parseMethodDescriptor y.desc = some sig → argsL.length = sig.parameters.length) (hst : st = argsL.reverse ++ .ref a :: rest) (has : (Value.ref a :: argsL).toArray = as') (hW : (rest.map fun v => v.category).sum ≤ Wd) (pc' : Nat) (hd : decode c.code pc = .ok (.invokevirtual index, 3)) (hp : pc + 3 = pc') (hc : cells + mc ≤ R.cells) (hs : slots + ms ≤ R.slots) (hws' : ∀ x ∈ ws', (x ∈ ws ∨ h0.size ≤ x) ∧ Safe Z EL vm0 h x)
    (K : ∀ (v : Option Value) (T' : State) (h' : Heap), Wk p l e R s m args below meth c Z EL h0 ws vm0 T' h' (cells + mc) (slots + ms) → Keep h h' ws' → CHr Z EL vm0 h vm0 h' → Q v h' → Goes p e below Post (T'.setTop (mkF m pc' ls (v.toList ++ rest)))) : Goes p e below Post (T.setTop (mkF m pc ls st)) := by
  subst hp hst
  have ho' := W.wown ho
  obtain ⟨locs, X, N, eh, K0, es, O, hws, hZ, ⟨k0, hS, hk⟩, C⟩ := W
  obtain ⟨cq, kq, qa, qb, qc⟩ := isOf (s := s.setVm vm0) hZ eh E
  obtain ⟨v, _, ⟨T1, L1', k1, n1⟩, -, X1, ⟨L1, ⟨q1, q2, q3⟩, l1, y1, z1⟩, stp⟩ := X.virtualBack hx ho' (mvT (s := s.setVm vm0) hZ w1) (mvT (s := s.setVm vm0) hZ w2) nf (mvT (s := s.setVm vm0) hZ w3) (mvT (s := s.setVm vm0) hZ w4) hy hK qa qc (g := mkF m pc ls (argsL.reverse ++ .ref a :: rest)) rfl hsz (Steps.refl _) hlen rfl (by show 2 * 0 + _ ≤ _; omega) hd (fun _ _ => ⟨has, eh, hc, hs⟩)
  dsimp only [Pt.U, Pt.locs, Pt.cells, Pt.slots] at X1 l1 y1 z1 stp q1 q2 q3
  subst l1 y1 z1
  have C1 := CHr.keep q2 (fun x hx => (hws' x hx).2) C.1
  exact Goes.run stp (K v T1 T1.heap ⟨_, X1, N.app q1, rfl, K0.trans q2 (fun x hx => (hws' x hx).1), es, O, hws, hZ, ⟨k0, hS, Nat.le_trans hk q2.1⟩, C.trans C1⟩ q2 C1 q3)
theorem Wk.priv (W : Wk p l e R s m args below meth c Z EL h0 ws vm0 T h cells slots) (hx : p.tables.exec = Jvm.exec) (ho : Z.vm.findClass own = some m.cls) {index : Nat} {y : MethodName} {bytes : ByteArray} {ml : Nat} {ret : Option FieldType} (w1 : (Cond.methodLink own index y).before a0 Z = true) (w2 : (Cond.instanceMethod y).before a0 Z = true) (w3 : (Cond.selects y.cls y y).before a0 Z = true) (w5 : (Cond.privateMethod y).before a0 Z = true) (w4 : (Cond.code y bytes ml ret).before a0 Z = true) (hy : y.cls ≠ "java/lang/invoke/MethodHandle" ∧ y.cls ≠ "java/lang/invoke/VarHandle")
    {Wd mc ms : Nat} {as' : Array Value} {ws' : List Addr} {Q : Option Value → Heap → Prop} (hK : Back l R p e below (s.setVm vm0) args y 3 Wd (PreB R as' h mc ms) (PostB Z h ws' Q mc ms)) {a : Addr} {C' : String} (E : Exa Z h a C') (hsz : ls.size = c.maxLocals) (argsL rest : List Value) (hlen : ∀ sig, parseMethodDescriptor y.desc = some sig → argsL.length = sig.parameters.length) (hst : st = argsL.reverse ++ .ref a :: rest) (has : (Value.ref a :: argsL).toArray = as') (hW : (rest.map fun v => v.category).sum ≤ Wd) (pc' : Nat) (hd : decode c.code pc = .ok (.invokevirtual index, 3)) (hp : pc + 3 = pc') (hc : cells + mc ≤ R.cells) (hs : slots + ms ≤ R.slots) (hws' : ∀ x ∈ ws', (x ∈ ws ∨ h0.size ≤ x) ∧ Safe Z EL vm0 h x)
    (K : ∀ (v : Option Value) (T' : State) (h' : Heap), Wk p l e R s m args below meth c Z EL h0 ws vm0 T' h' (cells + mc) (slots + ms) → Keep h h' ws' → CHr Z EL vm0 h vm0 h' → Q v h' → Goes p e below Post (T'.setTop (mkF m pc' ls (v.toList ++ rest)))) : Goes p e below Post (T.setTop (mkF m pc ls st)) := by
  subst hp hst
  have ho' := W.wown ho
  obtain ⟨locs, X, N, eh, K0, es, O, hws, hZ, ⟨k0, hS, hk⟩, C⟩ := W
  obtain ⟨cq, hcq, hcv⟩ := E.cell
  obtain ⟨v, _, ⟨T1, L1', k1, n1⟩, -, X1, ⟨L1, ⟨q1, q2, q3⟩, l1, y1, z1⟩, stp⟩ := X.privateBack hx ho' (mvT (s := s.setVm vm0) hZ w1) (mvT (s := s.setVm vm0) hZ w2) (mvT (s := s.setVm vm0) hZ w3) (Cond.privateMethod_at (mvP (s := s.setVm vm0) hZ w5 (args := #[]))) (mvT (s := s.setVm vm0) hZ w4) hy hK (g := mkF m pc ls (argsL.reverse ++ .ref a :: rest)) rfl hsz (Steps.refl _) (by rw [eh]; exact hcq) hcv hlen rfl (by show 2 * 0 + _ ≤ _; omega) hd (fun _ _ => ⟨has, eh, hc, hs⟩)
  dsimp only [Pt.U, Pt.locs, Pt.cells, Pt.slots] at X1 l1 y1 z1 stp q1 q2 q3
  subst l1 y1 z1
  have C1 := CHr.keep q2 (fun x hx => (hws' x hx).2) C.1
  exact Goes.run stp (K v T1 T1.heap ⟨_, X1, N.app q1, rfl, K0.trans q2 (fun x hx => (hws' x hx).1), es, O, hws, hZ, ⟨k0, hS, Nat.le_trans hk q2.1⟩, C.trans C1⟩ q2 C1 q3)
theorem Wk.iface (W : Wk p l e R s m args below meth c Z EL h0 ws vm0 T h cells slots) (hx : p.tables.exec = Jvm.exec) (ho : Z.vm.findClass own = some m.cls) {index count : Nat} {C' : String} {y z : MethodName} (w1 : (Cond.methodLink own index y).before a0 Z = true) (w2 : (Cond.declares y).before a0 Z = true) (w3 : (Cond.interfaceMethod y.cls y.cls y.name y.desc).before a0 Z = true) (w4 : (Cond.selects C' y z).before a0 Z = true) (w5 : (Cond.instanceMethod z).before a0 Z = true) (w6 : (Cond.publicMethod z).before a0 Z = true) (w7 : (Cond.unhidden C' y.name y.desc).before a0 Z = true) (w8 : (Cond.castable C' y.cls).before a0 Z = true) (hI : ((Cond.interfaceMethod y.cls y.cls y.name y.desc).onTables && (Cond.interfaceMethod y.cls y.cls y.name y.desc).keepsFace) = true) (hy : y.cls ≠ "java/lang/invoke/MethodHandle" ∧ y.cls ≠ "java/lang/invoke/VarHandle")
    {Wd mc ms : Nat} {as' : Array Value} {ws' : List Addr} {Q : Option Value → Heap → Prop} (hK : Back l R p e below (s.setVm vm0) args z 5 Wd (PreB R as' h mc ms) (PostB Z h ws' Q mc ms)) {a : Addr} (E : Exa Z h a C') (hsz : ls.size = c.maxLocals) (argsL rest : List Value) (hlen : ∀ sig, parseMethodDescriptor y.desc = some sig → argsL.length = sig.parameters.length) (hst : st = argsL.reverse ++ .ref a :: rest) (has : (Value.ref a :: argsL).toArray = as') (hW : (rest.map fun v => v.category).sum ≤ Wd) (pc' : Nat) (hd : decode c.code pc = .ok (.invokeinterface index count, 5)) (hp : pc + 5 = pc') (hc : cells + mc ≤ R.cells) (hs : slots + ms ≤ R.slots) (hws' : ∀ x ∈ ws', (x ∈ ws ∨ h0.size ≤ x) ∧ Safe Z EL vm0 h x)
    (K : ∀ (v : Option Value) (T' : State) (h' : Heap), Wk p l e R s m args below meth c Z EL h0 ws vm0 T' h' (cells + mc) (slots + ms) → Keep h h' ws' → CHr Z EL vm0 h vm0 h' → Q v h' → Goes p e below Post (T'.setTop (mkF m pc' ls (v.toList ++ rest)))) : Goes p e below Post (T.setTop (mkF m pc ls st)) := by
  subst hp hst
  have ho' := W.wown ho
  obtain ⟨locs, X, N, eh, K0, es, O, hws, hZ, ⟨k0, hS, hk⟩, C⟩ := W
  obtain ⟨cq, kq, qa, qb, qc⟩ := isOf (s := s.setVm vm0) hZ eh E
  obtain ⟨v, _, ⟨T1, L1', k1, n1⟩, -, X1, ⟨L1, ⟨q1, q2, q3⟩, l1, y1, z1⟩, stp⟩ := X.interfaceBack hx ho' (mvT (s := s.setVm vm0) hZ w1) (mvT (s := s.setVm vm0) hZ w2) (mvT (s := s.setVm vm0) hZ w3 hI) (mvT (s := s.setVm vm0) hZ w4) (mvT (s := s.setVm vm0) hZ w5) (mvT (s := s.setVm vm0) hZ w6) (mvT (s := s.setVm vm0) hZ w7) (mvT (s := s.setVm vm0) hZ w8) hy hK qa qb qc (g := mkF m pc ls (argsL.reverse ++ .ref a :: rest)) rfl hsz (Steps.refl _) hlen rfl (by show 2 * 0 + _ ≤ _; omega) hd (fun _ _ => ⟨has, eh, hc, hs⟩)
  dsimp only [Pt.U, Pt.locs, Pt.cells, Pt.slots] at X1 l1 y1 z1 stp q1 q2 q3
  subst l1 y1 z1
  have C1 := CHr.keep q2 (fun x hx => (hws' x hx).2) C.1
  exact Goes.run stp (K v T1 T1.heap ⟨_, X1, N.app q1, rfl, K0.trans q2 (fun x hx => (hws' x hx).1), es, O, hws, hZ, ⟨k0, hS, Nat.le_trans hk q2.1⟩, C.trans C1⟩ q2 C1 q3)
theorem Wk.callSW (W : Wk p l e R s m args below meth c Z EL h0 ws vm0 T h cells slots) (hx : p.tables.exec = Jvm.exec) (ho : Z.vm.findClass own = some m.cls) {index : Nat} {y : MethodName} {bytes : ByteArray} {ml : Nat} {ret : Option FieldType} (w1 : (Cond.methodLink own index y).before a0 Z = true) (w2 : (Cond.static y).before a0 Z = true) (w3 : (Cond.initialized y.cls).before a0 Z = true) (w4 : (Cond.code y bytes ml ret).before a0 Z = true) (hy : y.cls ≠ "java/lang/invoke/MethodHandle" ∧ y.cls ≠ "java/lang/invoke/VarHandle")
    {Wd mc ms : Nat} {as' : Array Value} {ws' : List Addr} {Q : Option Value → Heap → Prop} (hK : BackS l R p e below (s.setVm vm0) args y 3 Wd (PreB R as' h mc ms) (PostBW Z EL vm0 h ws' Q mc ms)) (hsz : ls.size = c.maxLocals) (argsL rest : List Value) (hlen : ∀ sig, parseMethodDescriptor y.desc = some sig → argsL.length = sig.parameters.length) (hst : st = argsL.reverse ++ rest) (has : argsL.toArray = as') (hW : (rest.map fun v => v.category).sum ≤ Wd) (pc' : Nat) (hd : decode c.code pc = .ok (.invokestatic index, 3)) (hp : pc + 3 = pc') (hc : cells + mc ≤ R.cells) (hs : slots + ms ≤ R.slots) (hws' : ∀ x ∈ ws', (x ∈ ws ∨ h0.size ≤ x) ∧ Safe Z EL vm0 h x)
    (K : ∀ (v : Option Value) (vm1 : Vm) (T' : State) (h' : Heap), Wk p l e R s m args below meth c Z EL h0 ws vm1 T' h' (cells + mc) (slots + ms) → Keep h h' ws' → CHr Z EL vm0 h vm1 h' → Q v h' → Goes p e below Post (T'.setTop (mkF m pc' ls (v.toList ++ rest)))) : Goes p e below Post (T.setTop (mkF m pc ls st)) := by
  subst hp hst
  have ho' := W.wown ho
  obtain ⟨locs, X, N, eh, K0, es, O, hws, hZ, ⟨k0, hS, hk⟩, C⟩ := W
  obtain ⟨v, _, ⟨T1, L1', k1, n1⟩, -, X1, hS1, hg1, ⟨L1, ⟨q1, q2, q3⟩, l1, y1, z1, C1⟩, stp⟩ := callSS X hx ho' (mvT (s := s.setVm vm0) hZ w1) (mvT (s := s.setVm vm0) hZ w2) (mvT (s := s.setVm vm0) hZ w3) (mvT (s := s.setVm vm0) hZ w4) hy hK (g := mkF m pc ls (argsL.reverse ++ rest)) rfl hsz hlen rfl (by show 2 * 0 + _ ≤ _; omega) hd (fun _ _ => ⟨has, eh, hc, hs⟩)
  dsimp only [Pt.U, Pt.locs, Pt.cells, Pt.slots] at X1 l1 y1 z1 stp q1 q2 q3 hS1 hg1 C1
  subst l1 y1 z1
  exact Goes.run stp (K v T1.vm T1 T1.heap ⟨_, X1, N.app q1, rfl, K0.trans q2 (fun x hx => (hws' x hx).1), es, O, hws, State.Warmed39.trans (t := s.setVm vm0) hZ hS1.1, ⟨_, hS.trans hS1 (Nat.le_trans hk (by rw [← eh]; exact hg1)), Nat.le_refl _⟩, C.trans C1⟩ q2 C1 q3)
theorem Wk.specialW (W : Wk p l e R s m args below meth c Z EL h0 ws vm0 T h cells slots) (hx : p.tables.exec = Jvm.exec) (ho : Z.vm.findClass own = some m.cls) {index : Nat} {y : MethodName} (hy1 : y.name = "<init>") {bytes : ByteArray} {ml : Nat} (w1 : (Cond.methodLink own index y).before a0 Z = true) (w2 : (Cond.instanceMethod y).before a0 Z = true) (w4 : (Cond.code y bytes ml none).before a0 Z = true) (hy : y.cls ≠ "java/lang/invoke/MethodHandle" ∧ y.cls ≠ "java/lang/invoke/VarHandle")
    {Wd mc ms : Nat} {as' : Array Value} {ws' : List Addr} {Q : Option Value → Heap → Prop} (hK : BackS l R p e below (s.setVm vm0) args y 3 Wd (PreB R as' h mc ms) (PostBW Z EL vm0 h ws' Q mc ms)) (a : Addr) (hsz : ls.size = c.maxLocals) (argsL rest : List Value) (hlen : ∀ sig, parseMethodDescriptor y.desc = some sig → argsL.length = sig.parameters.length) (hst : st = argsL.reverse ++ .ref a :: rest) (has : (Value.ref a :: argsL).toArray = as') (hW : (rest.map fun v => v.category).sum ≤ Wd) (pc' : Nat) (hd : decode c.code pc = .ok (.invokespecial index, 3)) (hp : pc + 3 = pc') (hc : cells + mc ≤ R.cells) (hs : slots + ms ≤ R.slots) (hws' : ∀ x ∈ ws', (x ∈ ws ∨ h0.size ≤ x) ∧ Safe Z EL vm0 h x)
    (K : ∀ (v : Option Value) (vm1 : Vm) (T' : State) (h' : Heap), Wk p l e R s m args below meth c Z EL h0 ws vm1 T' h' (cells + mc) (slots + ms) → Keep h h' ws' → CHr Z EL vm0 h vm1 h' → Q v h' → Goes p e below Post (T'.setTop (mkF m pc' ls (v.toList ++ rest)))) : Goes p e below Post (T.setTop (mkF m pc ls st)) := by
  subst hp hst
  have ho' := W.wown ho
  obtain ⟨locs, X, N, eh, K0, es, O, hws, hZ, ⟨k0, hS, hk⟩, C⟩ := W
  obtain ⟨v, _, ⟨T1, L1', k1, n1⟩, -, X1, hS1, hg1, ⟨L1, ⟨q1, q2, q3⟩, l1, y1, z1, C1⟩, stp⟩ := X.specialBackS hx hy1 ho' (mvT (s := s.setVm vm0) hZ w1) (mvT (s := s.setVm vm0) hZ w2) (mvT (s := s.setVm vm0) hZ w4) hy hK (g := mkF m pc ls (argsL.reverse ++ .ref a :: rest)) rfl hsz (Steps.refl _) hlen rfl (by show 2 * 0 + _ ≤ _; omega) hd (fun _ _ => ⟨has, eh, hc, hs⟩)
  dsimp only [Pt.U, Pt.locs, Pt.cells, Pt.slots] at X1 l1 y1 z1 stp q1 q2 q3 hS1 hg1 C1
  subst l1 y1 z1
  exact Goes.run stp (K v T1.vm T1 T1.heap ⟨_, X1, N.app q1, rfl, K0.trans q2 (fun x hx => (hws' x hx).1), es, O, hws, State.Warmed39.trans (t := s.setVm vm0) hZ hS1.1, ⟨_, hS.trans hS1 (Nat.le_trans hk (by rw [← eh]; exact hg1)), Nat.le_refl _⟩, C.trans C1⟩ q2 C1 q3)
theorem Wk.virtualW (W : Wk p l e R s m args below meth c Z EL h0 ws vm0 T h cells slots) (hx : p.tables.exec = Jvm.exec) (ho : Z.vm.findClass own = some m.cls) {index : Nat} {C' : String} {y z : MethodName} (w1 : (Cond.methodLink own index y).before a0 Z = true) (w2 : (Cond.declares y).before a0 Z = true) (w3 : (Cond.selects C' y z).before a0 Z = true) (w4 : (Cond.instanceMethod z).before a0 Z = true) (nf : NotFace (s.setVm vm0) y) (hy : y.cls ≠ "java/lang/invoke/MethodHandle" ∧ y.cls ≠ "java/lang/invoke/VarHandle")
    {Wd mc ms : Nat} {as' : Array Value} {ws' : List Addr} {Q : Option Value → Heap → Prop} (hK : BackS l R p e below (s.setVm vm0) args z 3 Wd (PreB R as' h mc ms) (PostBW Z EL vm0 h ws' Q mc ms)) {a : Addr} (E : Exa Z h a C') (hsz : ls.size = c.maxLocals) (argsL rest : List Value) (hlen : ∀ sig, parseMethodDescriptor y.desc = some sig → argsL.length = sig.parameters.length) (hst : st = argsL.reverse ++ .ref a :: rest) (has : (Value.ref a :: argsL).toArray = as') (hW : (rest.map fun v => v.category).sum ≤ Wd) (pc' : Nat) (hd : decode c.code pc = .ok (.invokevirtual index, 3)) (hp : pc + 3 = pc') (hc : cells + mc ≤ R.cells) (hs : slots + ms ≤ R.slots) (hws' : ∀ x ∈ ws', (x ∈ ws ∨ h0.size ≤ x) ∧ Safe Z EL vm0 h x)
    (K : ∀ (v : Option Value) (vm1 : Vm) (T' : State) (h' : Heap), Wk p l e R s m args below meth c Z EL h0 ws vm1 T' h' (cells + mc) (slots + ms) → Keep h h' ws' → CHr Z EL vm0 h vm1 h' → Q v h' → Goes p e below Post (T'.setTop (mkF m pc' ls (v.toList ++ rest)))) : Goes p e below Post (T.setTop (mkF m pc ls st)) := by
  subst hp hst
  have ho' := W.wown ho
  obtain ⟨locs, X, N, eh, K0, es, O, hws, hZ, ⟨k0, hS, hk⟩, C⟩ := W
  obtain ⟨cq, kq, qa, qb, qc⟩ := isOf (s := s.setVm vm0) hZ eh E
  obtain ⟨v, _, ⟨T1, L1', k1, n1⟩, -, X1, hS1, hg1, ⟨L1, ⟨q1, q2, q3⟩, l1, y1, z1, C1⟩, stp⟩ := X.virtualBackS hx ho' (mvT (s := s.setVm vm0) hZ w1) (mvT (s := s.setVm vm0) hZ w2) nf (mvT (s := s.setVm vm0) hZ w3) (mvT (s := s.setVm vm0) hZ w4) hy hK qa qc (g := mkF m pc ls (argsL.reverse ++ .ref a :: rest)) rfl hsz (Steps.refl _) hlen rfl (by show 2 * 0 + _ ≤ _; omega) hd (fun _ _ => ⟨has, eh, hc, hs⟩)
  dsimp only [Pt.U, Pt.locs, Pt.cells, Pt.slots] at X1 l1 y1 z1 stp q1 q2 q3 hS1 hg1 C1
  subst l1 y1 z1
  exact Goes.run stp (K v T1.vm T1 T1.heap ⟨_, X1, N.app q1, rfl, K0.trans q2 (fun x hx => (hws' x hx).1), es, O, hws, State.Warmed39.trans (t := s.setVm vm0) hZ hS1.1, ⟨_, hS.trans hS1 (Nat.le_trans hk (by rw [← eh]; exact hg1)), Nat.le_refl _⟩, C.trans C1⟩ q2 C1 q3)
theorem Wk.privW (W : Wk p l e R s m args below meth c Z EL h0 ws vm0 T h cells slots) (hx : p.tables.exec = Jvm.exec) (ho : Z.vm.findClass own = some m.cls) {index : Nat} {y : MethodName} {bytes : ByteArray} {ml : Nat} {ret : Option FieldType} (w1 : (Cond.methodLink own index y).before a0 Z = true) (w2 : (Cond.instanceMethod y).before a0 Z = true) (w3 : (Cond.selects y.cls y y).before a0 Z = true) (w5 : (Cond.privateMethod y).before a0 Z = true) (w4 : (Cond.code y bytes ml ret).before a0 Z = true) (hy : y.cls ≠ "java/lang/invoke/MethodHandle" ∧ y.cls ≠ "java/lang/invoke/VarHandle")
    {Wd mc ms : Nat} {as' : Array Value} {ws' : List Addr} {Q : Option Value → Heap → Prop} (hK : BackS l R p e below (s.setVm vm0) args y 3 Wd (PreB R as' h mc ms) (PostBW Z EL vm0 h ws' Q mc ms)) {a : Addr} {C' : String} (E : Exa Z h a C') (hsz : ls.size = c.maxLocals) (argsL rest : List Value) (hlen : ∀ sig, parseMethodDescriptor y.desc = some sig → argsL.length = sig.parameters.length) (hst : st = argsL.reverse ++ .ref a :: rest) (has : (Value.ref a :: argsL).toArray = as') (hW : (rest.map fun v => v.category).sum ≤ Wd) (pc' : Nat) (hd : decode c.code pc = .ok (.invokevirtual index, 3)) (hp : pc + 3 = pc') (hc : cells + mc ≤ R.cells) (hs : slots + ms ≤ R.slots) (hws' : ∀ x ∈ ws', (x ∈ ws ∨ h0.size ≤ x) ∧ Safe Z EL vm0 h x)
    (K : ∀ (v : Option Value) (vm1 : Vm) (T' : State) (h' : Heap), Wk p l e R s m args below meth c Z EL h0 ws vm1 T' h' (cells + mc) (slots + ms) → Keep h h' ws' → CHr Z EL vm0 h vm1 h' → Q v h' → Goes p e below Post (T'.setTop (mkF m pc' ls (v.toList ++ rest)))) : Goes p e below Post (T.setTop (mkF m pc ls st)) := by
  subst hp hst
  have ho' := W.wown ho
  obtain ⟨locs, X, N, eh, K0, es, O, hws, hZ, ⟨k0, hS, hk⟩, C⟩ := W
  obtain ⟨cq, hcq, hcv⟩ := E.cell
  obtain ⟨v, _, ⟨T1, L1', k1, n1⟩, -, X1, hS1, hg1, ⟨L1, ⟨q1, q2, q3⟩, l1, y1, z1, C1⟩, stp⟩ := X.privateBackS hx ho' (mvT (s := s.setVm vm0) hZ w1) (mvT (s := s.setVm vm0) hZ w2) (mvT (s := s.setVm vm0) hZ w3) (Cond.privateMethod_at (mvP (s := s.setVm vm0) hZ w5 (args := #[]))) (mvT (s := s.setVm vm0) hZ w4) hy hK (g := mkF m pc ls (argsL.reverse ++ .ref a :: rest)) rfl hsz (Steps.refl _) (by rw [eh]; exact hcq) hcv hlen rfl (by show 2 * 0 + _ ≤ _; omega) hd (fun _ _ => ⟨has, eh, hc, hs⟩)
  dsimp only [Pt.U, Pt.locs, Pt.cells, Pt.slots] at X1 l1 y1 z1 stp q1 q2 q3 hS1 hg1 C1
  subst l1 y1 z1
  exact Goes.run stp (K v T1.vm T1 T1.heap ⟨_, X1, N.app q1, rfl, K0.trans q2 (fun x hx => (hws' x hx).1), es, O, hws, State.Warmed39.trans (t := s.setVm vm0) hZ hS1.1, ⟨_, hS.trans hS1 (Nat.le_trans hk (by rw [← eh]; exact hg1)), Nat.le_refl _⟩, C.trans C1⟩ q2 C1 q3)
theorem Wk.ifaceW (W : Wk p l e R s m args below meth c Z EL h0 ws vm0 T h cells slots) (hx : p.tables.exec = Jvm.exec) (ho : Z.vm.findClass own = some m.cls) {index count : Nat} {C' : String} {y z : MethodName} (w1 : (Cond.methodLink own index y).before a0 Z = true) (w2 : (Cond.declares y).before a0 Z = true) (w3 : (Cond.interfaceMethod y.cls y.cls y.name y.desc).before a0 Z = true) (w4 : (Cond.selects C' y z).before a0 Z = true) (w5 : (Cond.instanceMethod z).before a0 Z = true) (w6 : (Cond.publicMethod z).before a0 Z = true) (w7 : (Cond.unhidden C' y.name y.desc).before a0 Z = true) (w8 : (Cond.castable C' y.cls).before a0 Z = true) (hI : ((Cond.interfaceMethod y.cls y.cls y.name y.desc).onTables && (Cond.interfaceMethod y.cls y.cls y.name y.desc).keepsFace) = true) (hy : y.cls ≠ "java/lang/invoke/MethodHandle" ∧ y.cls ≠ "java/lang/invoke/VarHandle")
    {Wd mc ms : Nat} {as' : Array Value} {ws' : List Addr} {Q : Option Value → Heap → Prop} (hK : BackS l R p e below (s.setVm vm0) args z 5 Wd (PreB R as' h mc ms) (PostBW Z EL vm0 h ws' Q mc ms)) {a : Addr} (E : Exa Z h a C') (hsz : ls.size = c.maxLocals) (argsL rest : List Value) (hlen : ∀ sig, parseMethodDescriptor y.desc = some sig → argsL.length = sig.parameters.length) (hst : st = argsL.reverse ++ .ref a :: rest) (has : (Value.ref a :: argsL).toArray = as') (hW : (rest.map fun v => v.category).sum ≤ Wd) (pc' : Nat) (hd : decode c.code pc = .ok (.invokeinterface index count, 5)) (hp : pc + 5 = pc') (hc : cells + mc ≤ R.cells) (hs : slots + ms ≤ R.slots) (hws' : ∀ x ∈ ws', (x ∈ ws ∨ h0.size ≤ x) ∧ Safe Z EL vm0 h x)
    (K : ∀ (v : Option Value) (vm1 : Vm) (T' : State) (h' : Heap), Wk p l e R s m args below meth c Z EL h0 ws vm1 T' h' (cells + mc) (slots + ms) → Keep h h' ws' → CHr Z EL vm0 h vm1 h' → Q v h' → Goes p e below Post (T'.setTop (mkF m pc' ls (v.toList ++ rest)))) : Goes p e below Post (T.setTop (mkF m pc ls st)) := by
  subst hp hst
  have ho' := W.wown ho
  obtain ⟨locs, X, N, eh, K0, es, O, hws, hZ, ⟨k0, hS, hk⟩, C⟩ := W
  obtain ⟨cq, kq, qa, qb, qc⟩ := isOf (s := s.setVm vm0) hZ eh E
  obtain ⟨v, _, ⟨T1, L1', k1, n1⟩, -, X1, hS1, hg1, ⟨L1, ⟨q1, q2, q3⟩, l1, y1, z1, C1⟩, stp⟩ := X.interfaceBackS hx ho' (mvT (s := s.setVm vm0) hZ w1) (mvT (s := s.setVm vm0) hZ w2) (mvT (s := s.setVm vm0) hZ w3 hI) (mvT (s := s.setVm vm0) hZ w4) (mvT (s := s.setVm vm0) hZ w5) (mvT (s := s.setVm vm0) hZ w6) (mvT (s := s.setVm vm0) hZ w7) (mvT (s := s.setVm vm0) hZ w8) hy hK qa qb qc (g := mkF m pc ls (argsL.reverse ++ .ref a :: rest)) rfl hsz (Steps.refl _) hlen rfl (by show 2 * 0 + _ ≤ _; omega) hd (fun _ _ => ⟨has, eh, hc, hs⟩)
  dsimp only [Pt.U, Pt.locs, Pt.cells, Pt.slots] at X1 l1 y1 z1 stp q1 q2 q3 hS1 hg1 C1
  subst l1 y1 z1
  exact Goes.run stp (K v T1.vm T1 T1.heap ⟨_, X1, N.app q1, rfl, K0.trans q2 (fun x hx => (hws' x hx).1), es, O, hws, State.Warmed39.trans (t := s.setVm vm0) hZ hS1.1, ⟨_, hS.trans hS1 (Nat.le_trans hk (by rw [← eh]; exact hg1)), Nat.le_refl _⟩, C.trans C1⟩ q2 C1 q3)
theorem Wk.nf (W : Wk p l e R s m args below meth c Z EL h0 ws vm0 T h cells slots) {C' : String} {y : MethodName} (w3 : (Cond.selects C' y y).before a0 Z = true) : NotFace (s.setVm vm0) y := notFace_of_selects (args := #[]) (mvT (s := s.setVm vm0) W.warm w3)
end Calls
section Ends
variable {p : Program} {l : Launch} {e : Env} {R : Room} {s : State} {m : MethodId} {args : Array Value} {below : List Frame} {meth : Method} {c : Code} {Z : State} {EL : List (String × Nat)} {h0 : Heap} {ws : List Addr} {vm0 : Vm} {T : State} {h : Heap} {cells slots : Nat} {a0 : Array Value} {pc : Nat} {ls : Array Slot} {rest : List Value} {own : String} {mc ms : Nat} {Q : Option Value → Heap → Prop}
theorem CN.of_walk {wl : List Cond} {y : MethodName} {bytes : ByteArray} {ml : Nat} {ret : Option FieldType} {rm : Room} {as' : Array Value} (hpl : plainFor y = true) (O : Ext Z.heap h0) (hws : ∀ x ∈ ws, Z.heap.size ≤ x)
    (body : ∀ (p : Program) (e : Env) (s : State) (m : MethodId) (below : List Frame) (meth : Method) (c : Code) (T : State), Wk p l e rm s m as' below meth c Z [] h0 ws s.vm T h0 0 0 → p.tables.exec = Jvm.exec → c.code = bytes → c.maxLocals = ml → Z.vm.findClass y.cls = some m.cls → meth.name = y.name → meth.sig.returnType = ret → meth.locks = false →
      Goes p e below (PostN s Z h0 ws Q rm.cells rm.slots) (T.setTop (entryFrame m as' ml))) : CN wl l Z y bytes ml ret rm as' h0 ws Q := by
  refine MetFree.of_bodySF hpl hisR ?_
  intro p e s m args below meth c s₁ Bd hml hP hK
  obtain ⟨rfl, hZ, hh⟩ := hP
  have X0 : Stand p l e rm s m args below meth c s₁ [] 0 0 := Stand.of_body Bd
  have e0 : s₁.heap = h0 := by rw [← hh, Bd.state]; rfl
  have hfc := findClass_of_methodNamed Bd.named
  obtain ⟨s₂, o, h1, h2, h3, h4⟩ := body p e s m below meth c s₁ ⟨[], X0, Fr.nil _, e0, Keep.refl _ _, hh, O, hws, hZ, ⟨_, (State.WarmedH.refl s).since 0, Nat.zero_le _⟩, CHr.refl (fun p hp => by cases hp)⟩ Bd.exec Bd.bytes hml (by rw [← hZ.alike.findClass]; exact hfc) (name_of_methodNamed Bd.named Bd.method).1 Bd.returns Bd.notSynchronized
  exact ⟨s₂, o, h1, h2, h3, h4⟩
theorem CW.of_walk {wl : List Cond} {y : MethodName} {bytes : ByteArray} {ml : Nat} {ret : Option FieldType} {rm : Room} {as' : Array Value} (hpl : plainFor y = true) (O : Ext Z.heap h0) (hws : ∀ x ∈ ws, Z.heap.size ≤ x)
    (body : ∀ (p : Program) (e : Env) (s : State) (m : MethodId) (below : List Frame) (meth : Method) (c : Code) (T : State), Wk p l e rm s m as' below meth c Z EL h0 ws s.vm T h0 0 0 → (∀ x ∈ ws, Safe Z EL s.vm h0 x) → p.tables.exec = Jvm.exec → c.code = bytes → c.maxLocals = ml → Z.vm.findClass y.cls = some m.cls → meth.name = y.name → meth.sig.returnType = ret → meth.locks = false →
      Goes p e below (PostW s Z EL h0 ws Q rm.cells rm.slots) (T.setTop (entryFrame m as' ml))) : CW wl l Z EL y bytes ml ret rm as' h0 ws Q := by
  refine MetFree.of_bodySF hpl hisR ?_
  intro p e s m args below meth c s₁ Bd hml hP hK
  obtain ⟨rfl, hZ, hh, hC, hsf⟩ := hP
  have X0 : Stand p l e rm s m args below meth c s₁ [] 0 0 := Stand.of_body Bd
  have e0 : s₁.heap = h0 := by rw [← hh, Bd.state]; rfl
  have hfc := findClass_of_methodNamed Bd.named
  obtain ⟨s₂, o, h1, h2, h3, h4⟩ := body p e s m below meth c s₁ ⟨[], X0, Fr.nil _, e0, Keep.refl _ _, hh, O, hws, hZ, ⟨_, (State.WarmedH.refl s).since 0, Nat.zero_le _⟩, CHr.refl hC⟩ hsf Bd.exec Bd.bytes hml (by rw [← hZ.alike.findClass]; exact hfc) (name_of_methodNamed Bd.named Bd.method).1 Bd.returns Bd.notSynchronized
  exact ⟨s₂, o, h1, h2, h3, h4⟩
theorem Wk.retI (W : Wk p l e R s m args below meth c Z EL h0 ws s.vm T h cells slots) (hx : p.tables.exec = Jvm.exec) {z : Int32} (hret : meth.sig.returnType = some .int) (hlk : meth.locks = false) (hd : decode c.code pc = .ok (.ireturn, 1)) (hc : cells ≤ mc) (hs : slots ≤ ms) (q : Q (some (.int z)) h) : Goes p e below (PostN s Z h0 ws Q mc ms) (T.setTop (mkF m pc ls ((.int z) :: rest))) := by
  obtain ⟨locs, X, N, eh, K0, -⟩ := W
  have X : Stand p l e R s m args below meth c T locs cells slots := X
  obtain ⟨fs, hr, hrun, hended, hW, hsame⟩ := X.leave (v := some (.int z)) (fun q => by rw [hret] at q; cases q) hlk
  exact ⟨_, _, retOut X hx hret rfl (Or.inl ⟨rfl, Or.inl rfl, _, rfl⟩) hd hr, hrun, hended, _, _, rfl, ⟨N, by show Keep h0 T.heap ws; rw [eh]; exact K0, by show Q _ T.heap; rw [eh]; exact q⟩, ⟨_, rfl⟩, hW, hsame.mono hc hs⟩
theorem Wk.retIW (W : Wk p l e R s m args below meth c Z EL h0 ws vm0 T h cells slots) (hx : p.tables.exec = Jvm.exec) (hEL : EW Z a0 EL) {z : Int32} (hret : meth.sig.returnType = some .int) (hlk : meth.locks = false) (hd : decode c.code pc = .ok (.ireturn, 1)) (hc : cells ≤ mc) (hs : slots ≤ ms) (q : Q (some (.int z)) h) : Goes p e below (PostW s Z EL h0 ws Q mc ms) (T.setTop (mkF m pc ls ((.int z) :: rest))) := by
  have W0 := W.mono hc hs
  obtain ⟨locs, X, N, eh, K0, es, -, -, hZ, ⟨k0, hS, hk⟩, C⟩ := W0
  obtain ⟨fs, hr, hrun, hended, hRE⟩ := X.leaveW hS (by rw [eh]; exact hk) (v := some (.int z)) (fun q => by rw [hret] at q; cases q) hlk
  exact ⟨_, _, retOut X hx hret rfl (Or.inl ⟨rfl, Or.inl rfl, _, rfl⟩) hd hr, hrun, hended, _, _, rfl, ⟨N, by show Keep h0 T.heap ws; rw [eh]; exact K0, by show Q _ T.heap; rw [eh]; exact q⟩, by show CHr Z EL s.vm h0 T.vm T.heap; rw [eh]; exact C.trans (CHv.at X hZ hEL C.1), hRE⟩
theorem Wk.retJ (W : Wk p l e R s m args below meth c Z EL h0 ws s.vm T h cells slots) (hx : p.tables.exec = Jvm.exec) {z : Int64} (hret : meth.sig.returnType = some .long) (hlk : meth.locks = false) (hd : decode c.code pc = .ok (.lreturn, 1)) (hc : cells ≤ mc) (hs : slots ≤ ms) (q : Q (some (.long z)) h) : Goes p e below (PostN s Z h0 ws Q mc ms) (T.setTop (mkF m pc ls ((.long z) :: rest))) := by
  obtain ⟨locs, X, N, eh, K0, -⟩ := W
  have X : Stand p l e R s m args below meth c T locs cells slots := X
  obtain ⟨fs, hr, hrun, hended, hW, hsame⟩ := X.leave (v := some (.long z)) (fun q => by rw [hret] at q; cases q) hlk
  exact ⟨_, _, retOut X hx hret rfl (Or.inr (Or.inl ⟨rfl, rfl, _, rfl⟩)) hd hr, hrun, hended, _, _, rfl, ⟨N, by show Keep h0 T.heap ws; rw [eh]; exact K0, by show Q _ T.heap; rw [eh]; exact q⟩, ⟨_, rfl⟩, hW, hsame.mono hc hs⟩
theorem Wk.retJW (W : Wk p l e R s m args below meth c Z EL h0 ws vm0 T h cells slots) (hx : p.tables.exec = Jvm.exec) (hEL : EW Z a0 EL) {z : Int64} (hret : meth.sig.returnType = some .long) (hlk : meth.locks = false) (hd : decode c.code pc = .ok (.lreturn, 1)) (hc : cells ≤ mc) (hs : slots ≤ ms) (q : Q (some (.long z)) h) : Goes p e below (PostW s Z EL h0 ws Q mc ms) (T.setTop (mkF m pc ls ((.long z) :: rest))) := by
  have W0 := W.mono hc hs
  obtain ⟨locs, X, N, eh, K0, es, -, -, hZ, ⟨k0, hS, hk⟩, C⟩ := W0
  obtain ⟨fs, hr, hrun, hended, hRE⟩ := X.leaveW hS (by rw [eh]; exact hk) (v := some (.long z)) (fun q => by rw [hret] at q; cases q) hlk
  exact ⟨_, _, retOut X hx hret rfl (Or.inr (Or.inl ⟨rfl, rfl, _, rfl⟩)) hd hr, hrun, hended, _, _, rfl, ⟨N, by show Keep h0 T.heap ws; rw [eh]; exact K0, by show Q _ T.heap; rw [eh]; exact q⟩, by show CHr Z EL s.vm h0 T.vm T.heap; rw [eh]; exact C.trans (CHv.at X hZ hEL C.1), hRE⟩
theorem Wk.retA (W : Wk p l e R s m args below meth c Z EL h0 ws s.vm T h cells slots) (hx : p.tables.exec = Jvm.exec) {t : FieldType} {z : Value} (ht : t.isReference = true) (hz : z.isRef = true) (hret : meth.sig.returnType = some t) (hlk : meth.locks = false) (hd : decode c.code pc = .ok (.areturn, 1)) (hc : cells ≤ mc) (hs : slots ≤ ms) (q : Q (some z) h) : Goes p e below (PostN s Z h0 ws Q mc ms) (T.setTop (mkF m pc ls (z :: rest))) := by
  obtain ⟨locs, X, N, eh, K0, -⟩ := W
  have X : Stand p l e R s m args below meth c T locs cells slots := X
  obtain ⟨fs, hr, hrun, hended, hW, hsame⟩ := X.leave (v := some z) (fun q => by rw [hret] at q; cases q) hlk
  exact ⟨_, _, retOut X hx hret (by cases t <;> simp [FieldType.isReference] at ht <;> cases z <;> simp [Value.isRef] at hz <;> rfl) (Or.inr (Or.inr (Or.inr (Or.inr ⟨rfl, ht, hz⟩)))) hd hr, hrun, hended, _, _, rfl, ⟨N, by show Keep h0 T.heap ws; rw [eh]; exact K0, by show Q _ T.heap; rw [eh]; exact q⟩, ⟨_, rfl⟩, hW, hsame.mono hc hs⟩
theorem Wk.retAW (W : Wk p l e R s m args below meth c Z EL h0 ws vm0 T h cells slots) (hx : p.tables.exec = Jvm.exec) (hEL : EW Z a0 EL) {t : FieldType} {z : Value} (ht : t.isReference = true) (hz : z.isRef = true) (hret : meth.sig.returnType = some t) (hlk : meth.locks = false) (hd : decode c.code pc = .ok (.areturn, 1)) (hc : cells ≤ mc) (hs : slots ≤ ms) (q : Q (some z) h) : Goes p e below (PostW s Z EL h0 ws Q mc ms) (T.setTop (mkF m pc ls (z :: rest))) := by
  have W0 := W.mono hc hs
  obtain ⟨locs, X, N, eh, K0, es, -, -, hZ, ⟨k0, hS, hk⟩, C⟩ := W0
  obtain ⟨fs, hr, hrun, hended, hRE⟩ := X.leaveW hS (by rw [eh]; exact hk) (v := some z) (fun q => by rw [hret] at q; cases q) hlk
  exact ⟨_, _, retOut X hx hret (by cases t <;> simp [FieldType.isReference] at ht <;> cases z <;> simp [Value.isRef] at hz <;> rfl) (Or.inr (Or.inr (Or.inr (Or.inr ⟨rfl, ht, hz⟩)))) hd hr, hrun, hended, _, _, rfl, ⟨N, by show Keep h0 T.heap ws; rw [eh]; exact K0, by show Q _ T.heap; rw [eh]; exact q⟩, by show CHr Z EL s.vm h0 T.vm T.heap; rw [eh]; exact C.trans (CHv.at X hZ hEL C.1), hRE⟩
theorem Wk.retN (W : Wk p l e R s m args below meth c Z EL h0 ws s.vm T h cells slots) (hx : p.tables.exec = Jvm.exec) {z : Int32} (z' : Int32) {t : FieldType} (hn : nar t z = z') (ht : t = .boolean ∨ t = .byte ∨ t = .char ∨ t = .short) (hret : meth.sig.returnType = some t) (hlk : meth.locks = false) (hd : decode c.code pc = .ok (.ireturn, 1)) (hc : cells ≤ mc) (hs : slots ≤ ms) (q : Q (some (.int z')) h) : Goes p e below (PostN s Z h0 ws Q mc ms) (T.setTop (mkF m pc ls (.int z :: rest))) := by
  subst hn
  obtain ⟨locs, X, N, eh, K0, -⟩ := W
  have X : Stand p l e R s m args below meth c T locs cells slots := X
  obtain ⟨fs, hr, hrun, hended, hW, hsame⟩ := X.leave (v := some (.int (nar t z))) (fun q => by rw [hret] at q; cases q) hlk
  exact ⟨_, _, RoadKit.retN X hx hret ht hd hr, hrun, hended, _, _, rfl, ⟨N, by show Keep h0 T.heap ws; rw [eh]; exact K0, by show Q _ T.heap; rw [eh]; exact q⟩, ⟨_, rfl⟩, hW, hsame.mono hc hs⟩
theorem Wk.retNW (W : Wk p l e R s m args below meth c Z EL h0 ws vm0 T h cells slots) (hx : p.tables.exec = Jvm.exec) (hEL : EW Z a0 EL) {z : Int32} (z' : Int32) {t : FieldType} (hn : nar t z = z') (ht : t = .boolean ∨ t = .byte ∨ t = .char ∨ t = .short) (hret : meth.sig.returnType = some t) (hlk : meth.locks = false) (hd : decode c.code pc = .ok (.ireturn, 1)) (hc : cells ≤ mc) (hs : slots ≤ ms) (q : Q (some (.int z')) h) : Goes p e below (PostW s Z EL h0 ws Q mc ms) (T.setTop (mkF m pc ls (.int z :: rest))) := by
  subst hn
  have W0 := W.mono hc hs
  obtain ⟨locs, X, N, eh, K0, es, -, -, hZ, ⟨k0, hS, hk⟩, C⟩ := W0
  obtain ⟨fs, hr, hrun, hended, hRE⟩ := X.leaveW hS (by rw [eh]; exact hk) (v := some (.int (nar t z))) (fun q => by rw [hret] at q; cases q) hlk
  exact ⟨_, _, RoadKit.retN X hx hret ht hd hr, hrun, hended, _, _, rfl, ⟨N, by show Keep h0 T.heap ws; rw [eh]; exact K0, by show Q _ T.heap; rw [eh]; exact q⟩, by show CHr Z EL s.vm h0 T.vm T.heap; rw [eh]; exact C.trans (CHv.at X hZ hEL C.1), hRE⟩
theorem Wk.retV (W : Wk p l e R s m args below meth c Z EL h0 ws s.vm T h cells slots) (hx : p.tables.exec = Jvm.exec) (hret : meth.sig.returnType = none) (hlk : meth.locks = false) (hd : decode c.code pc = .ok (.return_, 1)) (hc : cells ≤ mc) (hs : slots ≤ ms) (q : Q none h) : Goes p e below (PostN s Z h0 ws Q mc ms) (T.setTop (mkF m pc ls [])) := by
  obtain ⟨locs, X, N, eh, K0, -⟩ := W
  have X : Stand p l e R s m args below meth c T locs cells slots := X
  obtain ⟨fs, hr, hrun, hended, hW, hsame⟩ := X.leave (v := none) (fun _ => rfl) hlk
  exact ⟨_, _, X.returnOut hx hret hd hr, hrun, hended, _, _, rfl, ⟨N, by show Keep h0 T.heap ws; rw [eh]; exact K0, by show Q _ T.heap; rw [eh]; exact q⟩, ⟨_, rfl⟩, hW, hsame.mono hc hs⟩
theorem Wk.retVW (W : Wk p l e R s m args below meth c Z EL h0 ws vm0 T h cells slots) (hx : p.tables.exec = Jvm.exec) (hEL : EW Z a0 EL) (hret : meth.sig.returnType = none) (hlk : meth.locks = false) (hd : decode c.code pc = .ok (.return_, 1)) (hc : cells ≤ mc) (hs : slots ≤ ms) (q : Q none h) : Goes p e below (PostW s Z EL h0 ws Q mc ms) (T.setTop (mkF m pc ls [])) := by
  have W0 := W.mono hc hs
  obtain ⟨locs, X, N, eh, K0, es, -, -, hZ, ⟨k0, hS, hk⟩, C⟩ := W0
  obtain ⟨fs, hr, hrun, hended, hRE⟩ := X.leaveW hS (by rw [eh]; exact hk) (v := none) (fun _ => rfl) hlk
  exact ⟨_, _, X.returnOut hx hret hd hr, hrun, hended, _, _, rfl, ⟨N, by show Keep h0 T.heap ws; rw [eh]; exact K0, by show Q _ T.heap; rw [eh]; exact q⟩, by show CHr Z EL s.vm h0 T.vm T.heap; rw [eh]; exact C.trans (CHv.at X hZ hEL C.1), hRE⟩
end Ends
end Jvm.OwnKit
namespace Jvm.OwnKit
open Sem ClassFile Op Lib Jvm.Stand Jvm.Free Jvm.LawKit Jvm.RoadKit
theorem neA {x y : Addr} (h : @LT.lt Nat _ x y ∨ @LT.lt Nat _ y x) : x ≠ y := h.elim (fun q => Nat.ne_of_lt q) (fun q => Nat.ne_of_gt q)
theorem ltN {a : Addr} {n : Nat} (h : a < n) : @LT.lt Nat _ a n := h
theorem ltA {a : Addr} {n : Nat} (h : @LT.lt Nat _ a n) : a < n := h
theorem all1 {a : Addr} {n : Nat} (h : @LT.lt Nat _ a n) : ∀ x ∈ [a], x < n := fun x hx => by cases List.mem_singleton.mp hx; exact h
theorem neN {x y : Addr} (h : x ≠ y) : @LT.lt Nat _ x y ∨ @LT.lt Nat _ y x := Nat.lt_or_gt_of_ne h
theorem cat_int (x : Int32) : (Value.int x).category = 1 := rfl
theorem cat_long (x : Int64) : (Value.long x).category = 2 := rfl
theorem cat_refv (x : Addr) : (Value.ref x).category = 1 := rfl
theorem cat_null : Value.null.category = 1 := rfl
theorem ref_nar {t : FieldType} {v : Value} (ht : t.isReference = true) (hv : v.isRef = true) : narrow t v = v ∧ fits t v = true := by
  cases t <;> simp [FieldType.isReference] at ht <;> cases v <;> simp [Value.isRef] at hv <;> exact ⟨rfl, rfl⟩
theorem bool_nar {x : Int32} (h : x = 0 ∨ x = 1) : narrow .boolean (.int x) = .int x ∧ fits .boolean (.int x) = true := by rcases h with rfl | rfl <;> exact ⟨rfl, rfl⟩
theorem cat_ref {v : Value} (h : v.isRef = true) : v.category = 1 := by cases v <;> simp [Value.isRef] at h <;> rfl
theorem one_ref {v : Value} (h : v.isRef = true) : Slot.val v = .unset ∨ ∃ w, Slot.val v = .val w ∧ w.category = 1 := Or.inr ⟨v, rfl, cat_ref h⟩
/-- an int of Java's type char, below 256 -/
def C8 (x : Int32) : Prop := ¬ x < 0 ∧ ¬ (255 : Int32) < x
/-- an int of Java's type char -/
def C16 (x : Int32) : Prop := ¬ x < 0 ∧ ¬ (65535 : Int32) < x
theorem i32lt {x y : Int32} : x < y ↔ x.toInt < y.toInt := Int32.lt_iff_toInt_lt
theorem i32nat {y : Int32} (h : y.toBitVec.toNat < 2 ^ 31) : y.toInt = (y.toBitVec.toNat : Int) := by
  have : y.toInt = y.toBitVec.toInt := rfl
  rw [this, BitVec.toInt_eq_toNat_cond, if_pos (by omega)]
theorem C16.nat {x : Int32} (h : C16 x) : x.toBitVec.toNat < 65536 := by
  obtain ⟨h1, h2⟩ := h
  rw [i32lt] at h1 h2
  have e0 : (0 : Int32).toInt = 0 := rfl
  have e1 : (65535 : Int32).toInt = 65535 := rfl
  have : x.toInt = x.toBitVec.toInt := rfl
  have hb := x.toBitVec.isLt
  rw [this, BitVec.toInt_eq_toNat_cond] at h1 h2
  by_cases hc : 2 * x.toBitVec.toNat < 2 ^ 32
  · rw [if_pos hc] at h2; omega
  · rw [if_neg hc] at h1; omega
theorem C16.of {x : Int32} (h : x.toBitVec.toNat < 65536) : C16 x := by
  have e := i32nat (y := x) (by omega)
  constructor
  · rw [i32lt, e]; have e0 : (0 : Int32).toInt = 0 := rfl
    omega
  · rw [i32lt, e]; have e1 : (65535 : Int32).toInt = 65535 := rfl
    omega
theorem C8.of {x : Int32} (h : x.toBitVec.toNat < 256) : C8 x := by
  have e := i32nat (y := x) (by omega)
  constructor
  · rw [i32lt, e]; have e0 : (0 : Int32).toInt = 0 := rfl
    omega
  · rw [i32lt, e]; have e1 : (255 : Int32).toInt = 255 := rfl
    omega
theorem C8.up {x : Int32} (h : C8 x) : C16 x := ⟨h.1, fun q => h.2 (by rw [i32lt] at q ⊢; have e1 : (65535 : Int32).toInt = 65535 := rfl; have e2 : (255 : Int32).toInt = 255 := rfl; omega)⟩
theorem i2c_nat (x : Int32) : (i2c x).toBitVec.toNat = x.toBitVec.toNat % 65536 := by
  have h : (i2c x).toBitVec = (x.toBitVec.setWidth 16).setWidth 32 := rfl
  rw [h, BitVec.toNat_setWidth, BitVec.toNat_setWidth]
  omega
theorem i2c_c16 (x : Int32) : C16 (i2c x) := C16.of (by rw [i2c_nat]; omega)
theorem i2c_id {x : Int32} (h : C16 x) : i2c x = x := by
  apply Int32.toBitVec_inj.mp
  apply BitVec.eq_of_toNat_eq
  rw [i2c_nat]
  have := h.nat
  omega
theorem nar_c16 {x : Int32} (h : C16 x) : nar .char x = x := i2c_id h
theorem and_nat (x : Int32) (k : Nat) (hk : k < 2 ^ 31) : (x &&& Int32.ofNat k).toBitVec.toNat ≤ k := by
  have e : (x &&& Int32.ofNat k).toBitVec.toNat = x.toBitVec.toNat &&& (Int32.ofNat k).toBitVec.toNat := by simp [Int32.toBitVec_and, BitVec.toNat_and]
  have e2 : (Int32.ofNat k).toBitVec.toNat = k := by
    show (BitVec.ofNat 32 k).toNat = k
    rw [BitVec.toNat_ofNat]; omega
  rw [e, e2]; exact Nat.and_le_right
theorem and255 (x : Int32) : C8 (x &&& 255) := C8.of (Nat.lt_of_le_of_lt (and_nat x 255 (by decide)) (by decide))
theorem i2c_255 (x : Int32) : i2c (x &&& 255) = x &&& 255 := i2c_id (and255 x).up
theorem i2c_c8 (x : Int32) : C8 (i2c (x &&& 255)) := by rw [i2c_255]; exact and255 x
theorem ala {α : Type} {P : α → Prop} {y : α} {L : List α} (q : P y) (r : ∀ x ∈ L, P x) : ∀ x ∈ y :: L, P x := fun x z => (List.mem_cons.mp z).elim (fun u => u ▸ q) (r x)
theorem ala0 {α : Type} {P : α → Prop} : ∀ x ∈ ([] : List α), P x := fun _ q => nomatch q
/-- x holds no byte[] -/
def NB (Z : State) (h : Heap) (x : Addr) : Prop := ∀ c : Cell, ¬ Arr Z h x c .byte
theorem NB.exa {Z : State} {h : Heap} {x : Addr} {C : String} {n : Nat} {a0 : Array Value} (E : Exa Z h x C) (w : (Cond.instantiable C n).before a0 Z = true) : NB Z h x := fun c A => RoadKit.ne_arr E w A rfl
theorem NB.arr {Z : State} {h : Heap} {x : Addr} {cl : Cell} {ty : FieldType} (A : Arr Z h x cl ty) (ht : ty ≠ .byte) : NB Z h x := fun c B => by
  cases A.1.symm.trans B.1
  obtain ⟨-, k, h1, comp, h2⟩ := A.2.1
  obtain ⟨-, k', g1, comp', g2⟩ := B.2.1
  cases h1.symm.trans g1
  rw [h2] at g2
  injection g2 with _ e
  exact ht e
theorem NB.arv {Z : State} {h : Heap} {x : Addr} {k : ClassId} {ty : FieldType} {n : Int32} {vs : List Value} {d : Value} (V : Arv Z h x k ty n vs d) (ht : ty ≠ .byte) : NB Z h x := by
  obtain ⟨c, A, -⟩ := V; exact NB.arr A ht
end Jvm.OwnKit
namespace Jvm.OwnKit
open Sem ClassFile Op Lib Jvm.Stand Jvm.Free Jvm.LawKit Jvm.RoadKit
theorem safe0 {Z : State} {vm : Vm} {h : Heap} {x : Addr} : Safe Z [] vm h x := fun B => by obtain ⟨p, hp, -⟩ := B; cases hp
theorem inr1 {a : Addr} {n : Nat} (h : @LE.le Nat _ n a) {ws : List Addr} : ∀ x ∈ [a], x ∈ ws ∨ @LE.le Nat _ n x := fun x hx => by cases List.mem_singleton.mp hx; exact Or.inr h
theorem hws1 {Z : State} {EL : List (String × Nat)} {vm : Vm} {h : Heap} {a : Addr} {n : Nat} {ws : List Addr} (q : a ∈ ws ∨ @LE.le Nat _ n a) (S : Safe Z EL vm h a) : ∀ x ∈ [a], (x ∈ ws ∨ @LE.le Nat _ n x) ∧ Safe Z EL vm h x := fun x hx => by cases List.mem_singleton.mp hx; exact ⟨q, S⟩
theorem i2b_i2b (x : Int32) : nar .byte (i2b x) = i2b x := by
  show ((x.toInt8.toInt32).toInt8).toInt32 = x.toInt8.toInt32
  rw [Int8.toInt8_toInt32]
end Jvm.OwnKit
namespace Jvm.OwnKit
open Sem ClassFile Op Lib Jvm.Stand Jvm.Free Jvm.LawKit Jvm.RoadKit
/-- a class right under the root is no subclass of a class that can be made an object of -/
theorem not_sub {Z : State} {a0 : Array Value} {C O K : String} {n : Nat} (w : (Cond.superclass C O).before a0 Z = true) (wo : (Cond.noSuperclass O).before a0 Z = true) (wi : (Cond.instantiable K n).before a0 Z = true) (h1 : C ≠ K) (h2 : O ≠ K) : ∃ c t, Z.vm.findClass C = some c ∧ Z.vm.findClass K = some t ∧ Z.vm.assignable c t = false := by
  obtain ⟨t, kt, g1, g2, g3, g4, -⟩ := Cond.instantiable_spec wi
  obtain ⟨o, ko, o1, o2, o3, -, -⟩ := Cond.noSuperclass_spec wo
  have neO := ids_ne o1 g1 h2
  have N0 : NS Z O K := by
    refine ⟨o, t, o1, g1, fun fuel => ?_⟩
    cases fuel with
    | zero => rfl
    | succ f => simp [Vm.isSubclassAux, neO, o2, o3]
  obtain ⟨c, t', c1, c2, c3⟩ := NS.step w N0 h1
  cases g1.symm.trans c2
  obtain ⟨p, k, kp, q1, q2, q3, q4, q5, -, q7⟩ := Cond.superclass_spec c1 w
  have ne := ids_ne c1 g1 h1
  have hi : kt.isInterface = false := by
    cases hq : kt.isInterface with
    | false => rfl
    | true => rw [hq] at g4; cases g4
  refine ⟨c, t, c1, g1, ?_⟩
  show Z.vm.assignableAux (255 + 1) c t = false
  simp [Vm.assignableAux, ne, q2, g2, q5, g3, hi, Vm.isSubclass, c3]
end Jvm.OwnKit
namespace Jvm.OwnKit
open Sem ClassFile Op Lib Jvm.Stand Jvm.Free Jvm.LawKit Jvm.RoadKit
section Lits
variable {p : Program} {l : Launch} {e : Env} {R : Room} {s : State} {m : MethodId} {args : Array Value} {below : List Frame} {meth : Method} {c : Code} {Z : State} {EL : List (String × Nat)} {h0 : Heap} {ws : List Addr} {vm0 : Vm} {T : State} {h : Heap} {cells slots : Nat} {a0 : Array Value} {Post : Outcome → State → Prop} {pc : Nat} {ls : Array Slot} {st rest : List Value} {own : String}
/-- ldc of a String constant, its text read -/
theorem Wk.ldcE (W : Wk p l e R s m args below meth c Z EL h0 ws vm0 T h cells slots) (hx : p.tables.exec = Jvm.exec) (ho : Z.vm.findClass own = some m.cls) {index : Nat} {text : String} (w : (Cond.stringLink own index text).before a0 Z = true) (wS : ∀ a ∈ Bundle.stringAtoms, a.before a0 Z = true) (hEL : EW Z a0 EL) (hmem : (own, index) ∈ EL)
    {vs : List Value} {z : Int32} (ht : (∀ c ∈ text.toList, c.toNat < 256) ∧ text.toList.map (fun c => Value.int (Jvm.Lit.byteI c.toNat.toUInt16)) = vs) (hz : ¬ z < 0) (hl : z.toNatClampNeg = vs.length)
    (pc' : Nat) (hd : decode c.code pc = .ok (.ldc index, 2)) (hp : pc + 2 = pc') (n : Nat) (hn : 4 * text.toList.length ≤ n) (hbig : n ≤ 536870912) (hc : cells + 2 ≤ R.cells) (hl' : slots + (n + 4) ≤ R.slots)
    (K : ∀ (vm1 : Vm) (T' : State) (h' : Heap) (a b : Addr) (k : ClassId), Wk p l e R s m args below meth c Z EL h0 ws vm1 T' h' (cells + 2) (slots + (n + 4)) → Ext h h' → CHr Z EL vm0 h vm1 h' → Exa Z h' a "java/lang/String" → Fld Z h' a "java/lang/String" "coder" "B" (.int 0) → Fld Z h' a "java/lang/String" "value" "[B" (.ref b) → Arv Z h' b k .byte z vs (.int 0) → (∀ x, Safe Z EL vm1 h' x → x ≠ a ∧ x ≠ b) → Goes p e below Post (T'.setTop (mkF m pc' ls (.ref a :: st)))) : Goes p e below Post (T.setTop (mkF m pc ls st)) := by
  subst hp
  have ho' := W.wown ho
  obtain ⟨locs, X, N, eh, K0, es, O, hws, hZ, ⟨k0, hS, hk⟩, C⟩ := W
  obtain ⟨a, T', h', k1, b, k, X', e', E, hS', hk', hZ', -, F1, F2, F3, F4, -, -, C', -, hsep, stp⟩ := ldcCH X hx hZ ho' w wS eh hS hk hEL hmem C.1 ht hz hl (g := mkF m pc ls st) rfl hd hn hbig hc hl'
  exact Goes.go stp (K T'.vm T' h' a b k ⟨locs, X', N, e', K0.ext E, es, O, hws, hZ', ⟨k1, hS', hk'⟩, C.trans C'⟩ E C' F1 F2 F3 F4 hsep)
end Lits
end Jvm.OwnKit
/- laws to paste: Road.backV, Road.eqW, Road.codOf (cut by pick.py; bodies as the Statement names them) -/
namespace Jvm.Pilot.@@N@@
namespace StrChars
open Jvm Sem ClassFile Op Lib Jvm.Stand Jvm.Free.XT Jvm.Free.ALB Jvm.Free.JM Jvm.Free
open Jvm.Lib.Cold (StaticIs)
/-- a char array whose places are chars -/
def Ch (a : Addr) (A : Cell) (U : State) : Prop := Arr .char a A U ∧ Typed .char A
theorem Ch.mv {a : Addr} {A : Cell} {U U' : State} (h : Ch a A U) (hal : U.vm.Alike U'.vm) (hh : U'.heap = U.heap) : Ch a A U' := ⟨h.1.mv hal hh, h.2⟩
theorem Ch.keep {a : Addr} {A : Cell} {U U' : State} (h : Ch a A U) (hal : U.vm.Alike U'.vm) (hk : U'.heap[a]? = some A) : Ch a A U' := ⟨h.1.keep hal hk, h.2⟩
/-- what place i of a char[]'s cell holds -/
def cv (A : Cell) (i : Nat) : Int32 := match A.slots[i]? with | some (.int x) => x | _ => 0
theorem Ch.get {a : Addr} {A : Cell} {U : State} (h : Ch a A U) {i : Nat} (hi : i < A.slots.size) : A.slots[i]? = some (.int (cv A i)) := by
  have e := Array.getElem?_eq_getElem hi
  have f := h.2 i _ e
  unfold cv; rw [e]
  generalize A.slots[i] = v at f
  cases v <;> simp [fits] at f ⊢
/-- the byte that i2b leaves of a char -/
def lo8 (x : Int32) : Int32 := x.toInt8.toInt32
theorem fits_lo8 (y : Int32) : fits .byte (.int (lo8 y)) = true := by
  have h1 := y.toInt8.le_toInt
  have h2 := y.toInt8.toInt_lt
  simp only [lo8, fits, Bool.and_eq_true, decide_eq_true_eq, Int32.le_iff_toInt_le, Int8.toInt_toInt32, show (-128 : Int32).toInt = -128 from by decide, show (127 : Int32).toInt = 127 from by decide]
  omega
/-- A' is A but that each place j of lo .. hi - 1 holds f j -/
def Laid (A A' : Cell) (lo hi : Nat) (f : Nat → Value) : Prop := A'.cls = A.cls ∧ A'.vm = A.vm ∧ A'.slots.size = A.slots.size ∧ ∀ i, A'.slots[i]? = if lo ≤ i ∧ i < hi then some (f i) else A.slots[i]?
theorem Laid.zero (A : Cell) (lo : Nat) (f : Nat → Value) : Laid A A lo (lo + 0) f := ⟨rfl, rfl, rfl, fun i => by rw [if_neg (by omega)]⟩
theorem Laid.step {A Ak : Cell} {lo k : Nat} {f : Nat → Value} {v : Value} (h : Laid A Ak lo k f) (hlo : lo ≤ k) (hk : k < Ak.slots.size) (hv : v = f k) : Laid A (Ak.setSlot k v) lo (k + 1) f := by
  refine ⟨h.1, h.2.1, by simpa [Cell.setSlot] using h.2.2.1, fun i => ?_⟩
  by_cases e : k = i
  · subst e; rw [Cell.slots_setSlot_self v hk, if_pos (by omega), hv]
  · rw [Cell.slots_setSlot_ne v e, h.2.2.2 i]
    by_cases q : lo ≤ i ∧ i < k
    · rw [if_pos q, if_pos (by omega)]
    · rw [if_neg q, if_neg (by omega)]
def U16 : String := "java/lang/StringUTF16"
namespace Cmp5
def yN : MethodName := ⟨"java/lang/StringUTF16", "compress", "([CI[BII)I"⟩
abbrev yB : ByteArray := jdk_52_method_21_code
theorem d0 : decode yB 0 = .ok (.iconst 0, 1) := by decide +kernel
theorem d1 : decode yB 1 = .ok (.istore 5, 2) := by decide +kernel
theorem d3 : decode yB 3 = .ok (.iload 5, 2) := by decide +kernel
theorem d5 : decode yB 5 = .ok (.iload 4, 2) := by decide +kernel
theorem d7 : decode yB 7 = .ok (.if_icmp (.ge) 37, 3) := by decide +kernel
theorem d10 : decode yB 10 = .ok (.aload_n 0, 1) := by decide +kernel
theorem d11 : decode yB 11 = .ok (.iload_n 1, 1) := by decide +kernel
theorem d12 : decode yB 12 = .ok (.caload, 1) := by decide +kernel
theorem d13 : decode yB 13 = .ok (.istore 6, 2) := by decide +kernel
theorem d15 : decode yB 15 = .ok (.iload 6, 2) := by decide +kernel
theorem d17 : decode yB 17 = .ok (.sipush 255, 3) := by decide +kernel
theorem d20 : decode yB 20 = .ok (.if_icmp (.le) 6, 3) := by decide +kernel
theorem d26 : decode yB 26 = .ok (.aload_n 2, 1) := by decide +kernel
theorem d27 : decode yB 27 = .ok (.iload_n 3, 1) := by decide +kernel
theorem d28 : decode yB 28 = .ok (.iload 6, 2) := by decide +kernel
theorem d30 : decode yB 30 = .ok (.i2b, 1) := by decide +kernel
theorem d31 : decode yB 31 = .ok (.bastore, 1) := by decide +kernel
theorem d32 : decode yB 32 = .ok (.iinc 1 1, 3) := by decide +kernel
theorem d35 : decode yB 35 = .ok (.iinc 3 1, 3) := by decide +kernel
theorem d38 : decode yB 38 = .ok (.iinc 5 1, 3) := by decide +kernel
theorem d41 : decode yB 41 = .ok (.goto (-38), 3) := by decide +kernel
theorem d44 : decode yB 44 = .ok (.iload 4, 2) := by decide +kernel
theorem d46 : decode yB 46 = .ok (.ireturn, 1) := by decide +kernel
def site : List Cond := []
def tab : Cond := tabOf yN yB 7 (some .int) site
def P (b : Addr) (A : Cell) (d : Addr) (B : Cell) (o q len : Nat) (args : Array Value) (s : State) : Prop := args = #[.ref b, .int (Int32.ofNat o), .ref d, .int (Int32.ofNat q), .int (Int32.ofNat len)] ∧ Ch b A s ∧ Arr .byte d B s ∧ b ≠ d ∧ o + len ≤ A.slots.size ∧ q + len ≤ B.slots.size ∧ ∀ i, i < len → ¬ 255 < cv A (o + i)
def E (b : Addr) (A : Cell) (d : Addr) (B : Cell) (o q len : Nat) (r : Option Value) (s u : State) : Prop := r = some (.int (Int32.ofNat len)) ∧ ∃ B', Put d B' s u ∧ Laid B B' q (q + len) (fun j => Value.int (lo8 (cv A (o + (j - q)))))
/-- no char of the range above 255: len; the places written hold each char's low byte -/
theorem law (l : Launch) (b : Addr) (A : Cell) (d : Addr) (B : Cell) (o q len : Nat) : Law l yN 5 5 0 0 yB 7 (some .int) site (P b A d B o q len) (E b A d B o q len) (copyLocs d q len) 0 0 := by
  refine Law.of_walk (plainFor_of_name (by decide +kernel)) (by decide +kernel) (by decide +kernel) (by decide) (fun _ _ h => by rw [h.1]; rfl) (fun _ U U' hal hh h => ⟨h.1, h.2.1.mv hal hh, h.2.2.1.mv hal hh, h.2.2.2⟩) (fun r U U' V V' h1 hal h2 h => ⟨h.1, h.2.elim fun B' q => ⟨B', q.1.mv h1 h2, q.2⟩⟩) ?_
  intro p e s m args below meth c s₁ X0 hexec hbytes hml hret hlk hnm hown hh0 W hP
  obtain ⟨rfl, hA, hB, hne, l1, l2, hp⟩ := hP
  have c1 : Steps p.tables e below (s₁.setTop (entryFrame m #[.ref b, .int (Int32.ofNat o), .ref d, .int (Int32.ofNat q), .int (Int32.ofNat len)] 7)) (s₁.setTop (mkF m 0 #[.val (.ref b), .val (.int (Int32.ofNat o)), .val (.ref d), .val (.int (Int32.ofNat q)), .val (.int (Int32.ofNat len)), .unset, .unset] [])) := entry rfl
  have hA0 := hA.1.mv X0.warmed.alike hh0
  have hB0 := hB.mv X0.warmed.alike hh0
  have a31 := hA.1.2.2.2
  have c2 : Steps p.tables e below (s₁.setTop (entryFrame m #[.ref b, .int (Int32.ofNat o), .ref d, .int (Int32.ofNat q), .int (Int32.ofNat len)] 7)) (s₁.setTop (mkF m 3 #[.val (.ref b), .val (.int (Int32.ofNat o)), .val (.ref d), .val (.int (Int32.ofNat q)), .val (.int (Int32.ofNat len)), .val (.int 0), .unset] [])) := c1.trans (by
    refine iconstV X0.here hexec rfl 0 (hb hbytes d0) (by decide) ?_
    refine XS.istore X0.here hexec rfl (hb hbytes d1) rfl rfl ?_
    exact Steps.refl _)
  have loop : ∀ (r i : Nat), i + r = len → ∀ (z : Slot), (z = .unset ∨ ∃ w, z = .val w ∧ w.category = 1) → ∀ (Tl : State) (Bk : Cell), Stand p l e { frames := 0, locals := 0, cells := 0, slots := 0 } s m #[.ref b, .int (Int32.ofNat o), .ref d, .int (Int32.ofNat q), .int (Int32.ofNat len)] below meth c Tl ([] ++ copyLocs d q i) 0 0 → Put d Bk s₁ Tl → Laid B Bk q (q + i) (fun j => Value.int (lo8 (cv A (o + (j - q))))) →
      Steps p.tables e below (s₁.setTop (entryFrame m #[.ref b, .int (Int32.ofNat o), .ref d, .int (Int32.ofNat q), .int (Int32.ofNat len)] 7)) (Tl.setTop (mkF m 3 #[.val (.ref b), .val (.int (Int32.ofNat (o + i))), .val (.ref d), .val (.int (Int32.ofNat (q + i))), .val (.int (Int32.ofNat len)), .val (.int (Int32.ofNat i)), z] [])) → ∃ (T' : State) (B' : Cell) (z' : Slot), Stand p l e { frames := 0, locals := 0, cells := 0, slots := 0 } s m #[.ref b, .int (Int32.ofNat o), .ref d, .int (Int32.ofNat q), .int (Int32.ofNat len)] below meth c T' ([] ++ copyLocs d q len) 0 0 ∧ Put d B' s₁ T' ∧ Laid B B' q (q + len) (fun j => Value.int (lo8 (cv A (o + (j - q))))) ∧
      Steps p.tables e below (s₁.setTop (entryFrame m #[.ref b, .int (Int32.ofNat o), .ref d, .int (Int32.ofNat q), .int (Int32.ofNat len)] 7)) (T'.setTop (mkF m 3 #[.val (.ref b), .val (.int (Int32.ofNat (o + len))), .val (.ref d), .val (.int (Int32.ofNat (q + len))), .val (.int (Int32.ofNat len)), .val (.int (Int32.ofNat len)), z'] [])) := by
    intro r
    induction r with
    | zero =>
      intro i hi z hz Tl Bk Xl pl fl cl
      have hil : i = len := by omega
      rw [hil] at Xl fl cl
      exact ⟨Tl, Bk, z, Xl, pl, fl, cl⟩
    | succ r ih =>
      intro i hi z hz Tl Bk Xl pl fl cl
      have all := X0.warmed.alike.symm.trans Xl.warmed.alike
      have hAl := hA0.keep all (pl.other hne hA0.1)
      have hBk := hB0.like all pl.1 fl.1 fl.2.1 fl.2.2.1
      have hlt : q + i < Bk.slots.size := by rw [fl.2.2.1]; omega
      have c3 : Steps p.tables e below (s₁.setTop (entryFrame m #[.ref b, .int (Int32.ofNat o), .ref d, .int (Int32.ofNat q), .int (Int32.ofNat len)] 7)) (Tl.setTop (mkF m 12 #[.val (.ref b), .val (.int (Int32.ofNat (o + i))), .val (.ref d), .val (.int (Int32.ofNat (q + i))), .val (.int (Int32.ofNat len)), .val (.int (Int32.ofNat i)), z] [.int (Int32.ofNat (o + i)), .ref b])) := cl.trans (by
        refine XS.iload Xl.here hexec rfl (hb hbytes d3) rfl ?_
        refine XS.iload Xl.here hexec rfl (hb hbytes d5) rfl ?_
        refine XS.icmpNo Xl.here hexec rfl (hb hbytes d7) rfl (ii_ge_f (lt32 (by omega) (by omega))) ?_
        refine XS.aloadN Xl.here hexec rfl (hb hbytes d10) rfl rfl ?_
        refine XS.iloadN Xl.here hexec rfl (hb hbytes d11) rfl ?_
        exact Steps.refl _)
      have c4 : Steps p.tables e below (s₁.setTop (entryFrame m #[.ref b, .int (Int32.ofNat o), .ref d, .int (Int32.ofNat q), .int (Int32.ofNat len)] 7)) (Tl.setTop (mkF m 13 #[.val (.ref b), .val (.int (Int32.ofNat (o + i))), .val (.ref d), .val (.int (Int32.ofNat (q + i))), .val (.int (Int32.ofNat len)), .val (.int (Int32.ofNat i)), z] [.int (cv A (o + i))])) := c3.trans (by
        refine Xl.aget hexec hAl rfl (hA.get (i := o + i) (by omega)) rfl rfl (hb hbytes d12) ?_
        exact Steps.refl _)
      have c5 : Steps p.tables e below (s₁.setTop (entryFrame m #[.ref b, .int (Int32.ofNat o), .ref d, .int (Int32.ofNat q), .int (Int32.ofNat len)] 7)) (Tl.setTop (mkF m 15 #[.val (.ref b), .val (.int (Int32.ofNat (o + i))), .val (.ref d), .val (.int (Int32.ofNat (q + i))), .val (.int (Int32.ofNat len)), .val (.int (Int32.ofNat i)), .val (.int (cv A (o + i)))] [])) := c4.trans (by
        refine XS.istoreS Xl.here hexec rfl (hb hbytes d13) rfl rfl hz ?_
        exact Steps.refl _)
      have c6 : Steps p.tables e below (s₁.setTop (entryFrame m #[.ref b, .int (Int32.ofNat o), .ref d, .int (Int32.ofNat q), .int (Int32.ofNat len)] 7)) (Tl.setTop (mkF m 31 #[.val (.ref b), .val (.int (Int32.ofNat (o + i))), .val (.ref d), .val (.int (Int32.ofNat (q + i))), .val (.int (Int32.ofNat len)), .val (.int (Int32.ofNat i)), .val (.int (cv A (o + i)))] [.int (lo8 (cv A (o + i))), .int (Int32.ofNat (q + i)), .ref d])) := c5.trans (by
        refine XS.iload Xl.here hexec rfl (hb hbytes d15) rfl ?_
        refine sipushV Xl.here hexec rfl 255 (hb hbytes d17) (by decide) ?_
        refine XS.icmpYes Xl.here hexec rfl (pc0 := 20) rfl (hb hbytes d20) rfl (ii_le_t (hp i (by omega))) (by decide) rfl ?_
        refine XS.aloadN Xl.here hexec rfl (hb hbytes d26) rfl rfl ?_
        refine XS.iloadN Xl.here hexec rfl (hb hbytes d27) rfl ?_
        refine XS.iload Xl.here hexec rfl (hb hbytes d28) rfl ?_
        refine i2b Xl.here hexec rfl (hb hbytes d30) rfl ?_
        exact Steps.refl _)
      obtain ⟨T7, X7, p7, st7⟩ := Xl.aput hexec hBk rfl hlt rfl (fits_lo8 (cv A (o + i))) (g := (mkF m 31 #[.val (.ref b), .val (.int (Int32.ofNat (o + i))), .val (.ref d), .val (.int (Int32.ofNat (q + i))), .val (.int (Int32.ofNat len)), .val (.int (Int32.ofNat i)), .val (.int (cv A (o + i)))] [.int (lo8 (cv A (o + i))), .int (Int32.ofNat (q + i)), .ref d])) rfl (rest := []) rfl (hb hbytes d31)
      have c8 : Steps p.tables e below (s₁.setTop (entryFrame m #[.ref b, .int (Int32.ofNat o), .ref d, .int (Int32.ofNat q), .int (Int32.ofNat len)] 7)) (T7.setTop (mkF m 32 #[.val (.ref b), .val (.int (Int32.ofNat (o + i))), .val (.ref d), .val (.int (Int32.ofNat (q + i))), .val (.int (Int32.ofNat len)), .val (.int (Int32.ofNat i)), .val (.int (cv A (o + i)))] [])) := c6.trans (st7 _ (Steps.refl _))
      have c9 : Steps p.tables e below (s₁.setTop (entryFrame m #[.ref b, .int (Int32.ofNat o), .ref d, .int (Int32.ofNat q), .int (Int32.ofNat len)] 7)) (T7.setTop (mkF m 3 #[.val (.ref b), .val (.int (Int32.ofNat (o + i) + 1)), .val (.ref d), .val (.int (Int32.ofNat (q + i) + 1)), .val (.int (Int32.ofNat len)), .val (.int (Int32.ofNat i + 1)), .val (.int (cv A (o + i)))] [])) := c8.trans (by
        refine iincV X7.here hexec rfl 1 (hb hbytes d32) (by decide) rfl rfl ?_
        refine iincV X7.here hexec rfl 1 (hb hbytes d35) (by decide) rfl rfl ?_
        refine iincV X7.here hexec rfl 1 (hb hbytes d38) (by decide) rfl rfl ?_
        refine XS.goto X7.here hexec rfl (pc0 := 41) rfl (hb hbytes d41) (by decide) rfl ?_
        exact Steps.refl _)
      have c10 : Steps p.tables e below (s₁.setTop (entryFrame m #[.ref b, .int (Int32.ofNat o), .ref d, .int (Int32.ofNat q), .int (Int32.ofNat len)] 7)) (T7.setTop (mkF m 3 #[.val (.ref b), .val (.int (Int32.ofNat (o + (i + 1)))), .val (.ref d), .val (.int (Int32.ofNat (q + (i + 1)))), .val (.int (Int32.ofNat len)), .val (.int (Int32.ofNat (i + 1))), .val (.int (cv A (o + i)))] [])) := by
        have := c9
        rw [succ32, succ32, succ32] at this
        exact this
      exact ih (i + 1) (by omega) _ (Or.inr ⟨_, rfl, rfl⟩) T7 _ (by rw [copyLocs_step, ← List.append_assoc]; exact X7) (pl.trans p7) (fl.step (by omega) hlt (by simp)) c10
  obtain ⟨T9, B9, z9, X9, p9, f9, g9⟩ := loop len 0 (by omega) .unset (Or.inl rfl) s₁ B (by simpa [copyLocs] using X0) ⟨hB0.1, fun _ _ => rfl, rfl⟩ (Laid.zero _ _ _) c2
  have c11 : Steps p.tables e below (s₁.setTop (entryFrame m #[.ref b, .int (Int32.ofNat o), .ref d, .int (Int32.ofNat q), .int (Int32.ofNat len)] 7)) (T9.setTop (mkF m 46 #[.val (.ref b), .val (.int (Int32.ofNat (o + len))), .val (.ref d), .val (.int (Int32.ofNat (q + len))), .val (.int (Int32.ofNat len)), .val (.int (Int32.ofNat len)), z9] [.int (Int32.ofNat len)])) := g9.trans (by
    refine XS.iload X9.here hexec rfl (hb hbytes d3) rfl ?_
    refine XS.iload X9.here hexec rfl (hb hbytes d5) rfl ?_
    refine XS.icmpYes X9.here hexec rfl (pc0 := 7) rfl (hb hbytes d7) rfl (ii_ge_t (nlt32 (by omega) (Nat.le_refl _))) (by decide) rfl ?_
    refine XS.iload X9.here hexec rfl (hb hbytes d44) rfl ?_
    exact Steps.refl _)
  exact ⟨T9, some (.int (Int32.ofNat len)), _, _, _, X9, by simp, rfl, rfl, (fun h => by cases h), ⟨rfl, B9, p9.from hh0, f9⟩, fun fs hl => c11.trans (X9.ireturnOut hexec hret rfl (Or.inl rfl) (hb hbytes d46) hl)⟩
end Cmp5
namespace Cmp3
def yN : MethodName := ⟨"java/lang/StringUTF16", "compress", "([CII)[B"⟩
abbrev yB : ByteArray := jdk_52_method_16_code
theorem d0 : decode yB 0 = .ok (.iload_n 2, 1) := by decide +kernel
theorem d1 : decode yB 1 = .ok (.newarray .byte, 2) := by decide +kernel
theorem d3 : decode yB 3 = .ok (.astore_n 3, 1) := by decide +kernel
theorem d4 : decode yB 4 = .ok (.aload_n 0, 1) := by decide +kernel
theorem d5 : decode yB 5 = .ok (.iload_n 1, 1) := by decide +kernel
theorem d6 : decode yB 6 = .ok (.aload_n 3, 1) := by decide +kernel
theorem d7 : decode yB 7 = .ok (.iconst 0, 1) := by decide +kernel
theorem d8 : decode yB 8 = .ok (.iload_n 2, 1) := by decide +kernel
theorem d9 : decode yB 9 = .ok (.invokestatic 115, 3) := by decide +kernel
theorem d12 : decode yB 12 = .ok (.istore 4, 2) := by decide +kernel
theorem d14 : decode yB 14 = .ok (.iload 4, 2) := by decide +kernel
theorem d16 : decode yB 16 = .ok (.iload_n 2, 1) := by decide +kernel
theorem d17 : decode yB 17 = .ok (.if_icmp (.eq) 40, 3) := by decide +kernel
theorem d57 : decode yB 57 = .ok (.aload_n 3, 1) := by decide +kernel
theorem d58 : decode yB 58 = .ok (.areturn, 1) := by decide +kernel
def site : List Cond := [.arrayClass .byte, Cmp5.tab] ++ staticW U16 115 Cmp5.yN
def tab : Cond := tabOf yN yB 6 (some (.array .byte)) site
def P (b : Addr) (A : Cell) (o len : Nat) (args : Array Value) (s : State) : Prop := args = #[.ref b, .int (Int32.ofNat o), .int (Int32.ofNat len)] ∧ Ch b A s ∧ o + len ≤ A.slots.size ∧ len ≤ 536870912 ∧ ∀ i, i < len → ¬ 255 < cv A (o + i)
def E (b : Addr) (A : Cell) (o len : Nat) (r : Option Value) (s u : State) : Prop := NewArr .byte "[B" len (fun j => .int (lo8 (cv A (o + j)))) r s u ∧ u.heap.size = s.heap.size + 1
/-- no char of the range above 255: a new byte[] of their low bytes -/
theorem law (l : Launch) (b : Addr) (A : Cell) (o len : Nat) : Law l yN 3 3 1 18 yB 6 (some (.array .byte)) site (P b A o len) (E b A o len) [] 1 len := by
  refine Law.of_walk (plainFor_of_name (by decide +kernel)) (by decide +kernel) (by decide +kernel) (by decide) (fun _ _ h => by rw [h.1]; rfl) (fun _ U U' hal hh h => ⟨h.1, h.2.1.mv hal hh, h.2.2⟩) (fun r U U' V V' h1 hal h2 h => ⟨NewArr.mv r U U' V V' h1 hal h2 h.1, by rw [h1, h2]; exact h.2⟩) ?_
  intro p e s m args below meth c s₁ X0 hexec hbytes hml hret hlk hnm hown hh0 W hP
  obtain ⟨rfl, hA, l1, l2, hp⟩ := hP
  have a31 := hA.1.2.2.2
  have c1 : Steps p.tables e below (s₁.setTop (entryFrame m #[.ref b, .int (Int32.ofNat o), .int (Int32.ofNat len)] 6)) (s₁.setTop (mkF m 0 #[.val (.ref b), .val (.int (Int32.ofNat o)), .val (.int (Int32.ofNat len)), .unset, .unset, .unset] [])) := entry rfl
  have c2 : Steps p.tables e below (s₁.setTop (entryFrame m #[.ref b, .int (Int32.ofNat o), .int (Int32.ofNat len)] 6)) (s₁.setTop (mkF m 1 #[.val (.ref b), .val (.int (Int32.ofNat o)), .val (.int (Int32.ofNat len)), .unset, .unset, .unset] [.int (Int32.ofNat len)])) := c1.trans (by
    refine XS.iloadN X0.here hexec rfl (hb hbytes d0) rfl ?_
    exact Steps.refl _)
  obtain ⟨T3, B3, X3, ba3, bs3, bv3, bh3, bf3, st3⟩ := X0.anew hexec (atype := .byte) (wk W (.arrayClass .byte)) rfl (by show len * 1 ≤ _; omega) (by omega) (g := (mkF m 1 #[.val (.ref b), .val (.int (Int32.ofNat o)), .val (.int (Int32.ofNat len)), .unset, .unset, .unset] [.int (Int32.ofNat len)])) rfl (hb hbytes d1) (rest := []) rfl (Nat.le_refl _) (by show 0 + len ≤ len; omega)
  rw [hh0] at ba3 st3
  have kp3 : XT.Kept s T3 := (XT.Kept.of_eq hh0).push bh3
  have hA3 := hA.keep X3.warmed.alike (kp3 _ _ hA.1.1)
  have hne : b ≠ s.heap.size := hA.1.ne
  have c4 : Steps p.tables e below (s₁.setTop (entryFrame m #[.ref b, .int (Int32.ofNat o), .int (Int32.ofNat len)] 6)) (T3.setTop (mkF m 3 #[.val (.ref b), .val (.int (Int32.ofNat o)), .val (.int (Int32.ofNat len)), .unset, .unset, .unset] [.ref s.heap.size])) := c2.trans (st3 _ (Steps.refl _))
  have c5 : Steps p.tables e below (s₁.setTop (entryFrame m #[.ref b, .int (Int32.ofNat o), .int (Int32.ofNat len)] 6)) (T3.setTop (mkF m 9 #[.val (.ref b), .val (.int (Int32.ofNat o)), .val (.int (Int32.ofNat len)), .val (.ref s.heap.size), .unset, .unset] [.int (Int32.ofNat len), .int 0, .ref s.heap.size, .int (Int32.ofNat o), .ref b])) := c4.trans (by
    refine XS.astoreN X3.here hexec rfl (hb hbytes d3) rfl rfl rfl ?_
    refine XS.aloadN X3.here hexec rfl (hb hbytes d4) rfl rfl ?_
    refine XS.iloadN X3.here hexec rfl (hb hbytes d5) rfl ?_
    refine XS.aloadN X3.here hexec rfl (hb hbytes d6) rfl rfl ?_
    refine iconstV X3.here hexec rfl 0 (hb hbytes d7) (by decide) ?_
    refine XS.iloadN X3.here hexec rfl (hb hbytes d8) rfl ?_
    exact Steps.refl _)
  obtain ⟨v6, T6, X6, E6, g6⟩ := X3.callS hexec (Cmp5.law l b A s.heap.size B3 o 0 len) hown (wks W (staticW U16 115 Cmp5.yN)) (wk W Cmp5.tab) (W := 0) (Nat.le_of_ble_eq_true rfl) (Nat.le_of_ble_eq_true rfl) (Nat.le_refl _) (by show 0 + len + 0 ≤ len; omega) (g := (mkF m 9 #[.val (.ref b), .val (.int (Int32.ofNat o)), .val (.int (Int32.ofNat len)), .val (.ref s.heap.size), .unset, .unset] [.int (Int32.ofNat len), .int (Int32.ofNat 0), .ref s.heap.size, .int (Int32.ofNat o), .ref b])) rfl (by rw [hml]; rfl) c5 (argsL := [.ref b, .int (Int32.ofNat o), .ref s.heap.size, .int (Int32.ofNat 0), .int (Int32.ofNat len)]) (rest := []) rfl rfl (by show 2 * 0 + 0 ≤ _; decide) (hb hbytes d9) (⟨rfl, hA3, ba3, hne, l1, by rw [bs3]; simp, hp⟩)
  obtain ⟨rfl, B6, p6, f6⟩ := E6
  have c7 : Steps p.tables e below (s₁.setTop (entryFrame m #[.ref b, .int (Int32.ofNat o), .int (Int32.ofNat len)] 6)) (T6.setTop (mkF m 12 #[.val (.ref b), .val (.int (Int32.ofNat o)), .val (.int (Int32.ofNat len)), .val (.ref s.heap.size), .unset, .unset] [.int (Int32.ofNat len)])) := g6
  have c8 : Steps p.tables e below (s₁.setTop (entryFrame m #[.ref b, .int (Int32.ofNat o), .int (Int32.ofNat len)] 6)) (T6.setTop (mkF m 58 #[.val (.ref b), .val (.int (Int32.ofNat o)), .val (.int (Int32.ofNat len)), .val (.ref s.heap.size), .val (.int (Int32.ofNat len)), .unset] [.ref s.heap.size])) := c7.trans (by
    refine XS.istore X6.here hexec rfl (hb hbytes d12) rfl rfl ?_
    refine XS.iload X6.here hexec rfl (hb hbytes d14) rfl ?_
    refine XS.iloadN X6.here hexec rfl (hb hbytes d16) rfl ?_
    refine XS.icmpYes X6.here hexec rfl (pc0 := 17) rfl (hb hbytes d17) rfl (ii_eq_t rfl) (by decide) rfl ?_
    refine XS.aloadN X6.here hexec rfl (hb hbytes d57) rfl rfl ?_
    exact Steps.refl _)
  have X8 := X6.wide (L' := []) (cells' := 1) (slots' := len) (fun x hx hlt => by
    simp only [List.nil_append, copyLocs, List.mem_map, List.mem_range] at hx
    obtain ⟨i, -, rfl⟩ := hx
    exact absurd hlt (Nat.lt_irrefl _)) (Nat.le_refl _) (by omega)
  exact ⟨T6, some (.ref s.heap.size), _, _, _, X8, rfl, rfl, rfl, (fun h => by cases h), ⟨⟨rfl, B6, ba3.like (X3.warmed.alike.symm.trans X6.warmed.alike) p6.1 f6.1 f6.2.1 f6.2.2.1, f6.2.1.trans bv3, by rw [X6.warmed.alike.findClass, f6.1]; exact bf3, by rw [f6.2.2.1, bs3]; simp, fun j hj => by rw [f6.2.2.2 j, if_pos (by omega)]; rfl, kp3.put p6 (Nat.le_refl _)⟩, by rw [p6.2.2, bh3, hh0]; simp⟩, fun fs hl => c8.trans (X8.areturnOut hexec rfl hret rfl (hb hbytes d58) hl)⟩
end Cmp3
namespace CodL
def yN : MethodName := ⟨"java/lang/StringUTF16", "coderFromArrayLen", "([BI)B"⟩
abbrev yB : ByteArray := jdk_52_method_15_code
theorem d0 : decode yB 0 = .ok (.iload_n 1, 1) := by decide +kernel
theorem d1 : decode yB 1 = .ok (.aload_n 0, 1) := by decide +kernel
theorem d2 : decode yB 2 = .ok (.arraylength, 1) := by decide +kernel
theorem d3 : decode yB 3 = .ok (.isub, 1) := by decide +kernel
theorem d4 : decode yB 4 = .ok (.bipush 31, 2) := by decide +kernel
theorem d6 : decode yB 6 = .ok (.iushr, 1) := by decide +kernel
theorem d7 : decode yB 7 = .ok (.i2b, 1) := by decide +kernel
theorem d8 : decode yB 8 = .ok (.ireturn, 1) := by decide +kernel
def site : List Cond := []
def tab : Cond := tabOf yN yB 2 (some .byte) site
def P (d : Addr) (B : Cell) (args : Array Value) (s : State) : Prop := args = #[.ref d, .int (Int32.ofNat B.slots.size)] ∧ Arr .byte d B s
def E (r : Option Value) (s u : State) : Prop := XT.PureE (some (.int 0)) r s u
/-- an array as long as the number of chars: LATIN1 -/
theorem law (l : Launch) (d : Addr) (B : Cell) : Law l yN 2 2 0 0 yB 2 (some .byte) site (P d B) E [] 0 0 := by
  refine Law.of_walk (plainFor_of_name (by decide +kernel)) (by decide +kernel) (by decide +kernel) (by decide) (fun _ _ h => by rw [h.1]; rfl) (fun _ U U' hal hh h => ⟨h.1, h.2.mv hal hh⟩) (fun r U U' V V' h1 hal h2 h => XT.PureE.mv r U U' V V' h1 hal h2 h) ?_
  intro p e s m args below meth c s₁ X0 hexec hbytes hml hret hlk hnm hown hh0 W hP
  obtain ⟨rfl, hB⟩ := hP
  have hB0 := hB.mv X0.warmed.alike hh0
  have c1 : Steps p.tables e below (s₁.setTop (entryFrame m #[.ref d, .int (Int32.ofNat B.slots.size)] 2)) (s₁.setTop (mkF m 0 #[.val (.ref d), .val (.int (Int32.ofNat B.slots.size))] [])) := entry rfl
  have c2 : Steps p.tables e below (s₁.setTop (entryFrame m #[.ref d, .int (Int32.ofNat B.slots.size)] 2)) (s₁.setTop (mkF m 2 #[.val (.ref d), .val (.int (Int32.ofNat B.slots.size))] [.ref d, .int (Int32.ofNat B.slots.size)])) := c1.trans (by
    refine XS.iloadN X0.here hexec rfl (hb hbytes d0) rfl ?_
    refine XS.aloadN X0.here hexec rfl (hb hbytes d1) rfl rfl ?_
    exact Steps.refl _)
  have c3 : Steps p.tables e below (s₁.setTop (entryFrame m #[.ref d, .int (Int32.ofNat B.slots.size)] 2)) (s₁.setTop (mkF m 8 #[.val (.ref d), .val (.int (Int32.ofNat B.slots.size))] [.int (lo8 (ushr (Int32.ofNat B.slots.size - Int32.ofNat B.slots.size) 31))])) := c2.trans (by
    refine X0.alen hexec hB0 rfl rfl (hb hbytes d2) ?_
    refine XS.isub X0.here hexec rfl (hb hbytes d3) rfl ?_
    refine bipushV X0.here hexec rfl 31 (hb hbytes d4) (by decide) ?_
    refine iushr X0.here hexec rfl (hb hbytes d6) rfl ?_
    refine i2b X0.here hexec rfl (hb hbytes d7) rfl ?_
    exact Steps.refl _)
  have e0 : lo8 (ushr (Int32.ofNat B.slots.size - Int32.ofNat B.slots.size) 31) = 0 := by rw [Int32.sub_self]; decide
  rw [e0] at c3
  exact ⟨s₁, some (.int 0), _, _, _, X0, rfl, rfl, rfl, (fun h => by cases h), ⟨rfl, hh0⟩, fun fs hl => c3.trans (X0.ireturnOut hexec hret rfl (Or.inr (Or.inr (Or.inl rfl))) (hb hbytes d8) hl)⟩
end CodL
/-- the String at a is Latin-1 over a new byte[] (the heap's one new cell): the low bytes of the len chars of A from o on; every cell but a is kept -/
def Got (a : Addr) (D : Cell) (fV fC : Field) (A : Cell) (o len : Nat) (r : Option Value) (s u : State) : Prop := r = none ∧ ∃ D' V : Cell, Blank "java/lang/String" a D' u ∧ Same D D' [fV.slot, fC.slot] ∧ D'.slots[fV.slot]? = some (.ref s.heap.size) ∧ D'.slots[fC.slot]? = some (.int 0) ∧ Arr .byte s.heap.size V u ∧ V.vm = .none ∧ u.vm.findClass "[B" = some V.cls ∧ V.slots.size = len ∧ (∀ j, j < len → V.slots[j]? = some (.int (lo8 (cv A (o + j))))) ∧ (∀ (y : Addr) (c : Cell), y ≠ a → s.heap[y]? = some c → u.heap[y]? = some c) ∧ u.heap.size = s.heap.size + 1
theorem Got.mv {a : Addr} {D A : Cell} {fV fC : Field} {o len : Nat} : ∀ r (U U' V V' : State), U'.heap = U.heap → V.vm.Alike V'.vm → V'.heap = V.heap → Got a D fV fC A o len r U V → Got a D fV fC A o len r U' V' :=
  fun r U U' V V' h1 hal h2 ⟨e0, D', X, a1, a2, a3, a4, a5, a6, a7, a8, a9, a10, a11⟩ => ⟨e0, D', X, a1.mv hal h2, a2, by rw [h1]; exact a3, a4, by rw [h1]; exact a5.mv hal h2, a6, by rw [hal.findClass]; exact a7, a8, a9, by rw [h1, h2]; exact a10, by rw [h1, h2]; exact a11⟩
namespace New4
def yN : MethodName := ⟨"java/lang/String", "<init>", "([CIILjava/lang/Void;)V"⟩
abbrev yB : ByteArray := jdk_42_method_149_code
theorem d0 : decode yB 0 = .ok (.aload_n 0, 1) := by decide +kernel
theorem d1 : decode yB 1 = .ok (.invokespecial 1, 3) := by decide +kernel
theorem d4 : decode yB 4 = .ok (.iload_n 3, 1) := by decide +kernel
theorem d5 : decode yB 5 = .ok (.ifCond (.ne) 22, 3) := by decide +kernel
theorem d27 : decode yB 27 = .ok (.getstatic 38, 3) := by decide +kernel
theorem d30 : decode yB 30 = .ok (.ifCond (.eq) 28, 3) := by decide +kernel
theorem d33 : decode yB 33 = .ok (.aload_n 1, 1) := by decide +kernel
theorem d34 : decode yB 34 = .ok (.iload_n 2, 1) := by decide +kernel
theorem d35 : decode yB 35 = .ok (.iload_n 3, 1) := by decide +kernel
theorem d36 : decode yB 36 = .ok (.invokestatic 177, 3) := by decide +kernel
theorem d39 : decode yB 39 = .ok (.astore 5, 2) := by decide +kernel
theorem d41 : decode yB 41 = .ok (.aload_n 0, 1) := by decide +kernel
theorem d42 : decode yB 42 = .ok (.aload 5, 2) := by decide +kernel
theorem d44 : decode yB 44 = .ok (.iload_n 3, 1) := by decide +kernel
theorem d45 : decode yB 45 = .ok (.invokestatic 47, 3) := by decide +kernel
theorem d48 : decode yB 48 = .ok (.putfield 15, 3) := by decide +kernel
theorem d51 : decode yB 51 = .ok (.aload_n 0, 1) := by decide +kernel
theorem d52 : decode yB 52 = .ok (.aload 5, 2) := by decide +kernel
theorem d54 : decode yB 54 = .ok (.putfield 9, 3) := by decide +kernel
theorem d57 : decode yB 57 = .ok (.return_, 1) := by decide +kernel
def site : List Cond := [.fieldLink "java/lang/String" 38 "java/lang/String" "COMPACT_STRINGS" "Z", Cmp3.tab, CodL.tab, .laysFinal "java/lang/String" "java/lang/String" "value" "[B", .fieldLink "java/lang/String" 9 "java/lang/String" "value" "[B", .laysFinal "java/lang/String" "java/lang/String" "coder" "B", .fieldLink "java/lang/String" 15 "java/lang/String" "coder" "B"] ++ objW "java/lang/String" 1 ++ staticW "java/lang/String" 177 Cmp3.yN ++ staticW "java/lang/String" 47 CodL.yN
def tab : Cond := tabOf yN yB 6 none site
def P (a : Addr) (D : Cell) (fV fC : Field) (b : Addr) (A : Cell) (z : Int32) (o len : Nat) (args : Array Value) (s : State) : Prop := args = #[.ref a, .ref b, .int (Int32.ofNat o), .int (Int32.ofNat len), .null] ∧ Blank "java/lang/String" a D s ∧ Found "java/lang/String" "value" "[B" fV s ∧ Found "java/lang/String" "coder" "B" fC s ∧ Ch b A s ∧ StaticIs s "java/lang/String" "COMPACT_STRINGS" "Z" (.int z) ∧ ¬ z = 0 ∧ 0 < len ∧ o + len ≤ A.slots.size ∧ len ≤ 536870912 ∧ ∀ i, i < len → ¬ 255 < cv A (o + i)
def E (a : Addr) (D : Cell) (fV fC : Field) (A : Cell) (o len : Nat) (r : Option Value) (s u : State) : Prop := Got a D fV fC A o len r s u
/-- len > 0, no char of the range above 255: a Latin-1 String of their low bytes -/
theorem law (l : Launch) (a : Addr) (D : Cell) (fV fC : Field) (b : Addr) (A : Cell) (z : Int32) (o len : Nat) : Law l yN 5 4 2 35 yB 6 none site (P a D fV fC b A z o len) (E a D fV fC A o len) [⟨a, fC.slot⟩, ⟨a, fV.slot⟩] 1 len := by
  refine Law.of_walk (plainFor_of_name (by decide +kernel)) (by decide +kernel) (by decide +kernel) (by decide) (fun _ _ h => by rw [h.1]; rfl) (fun _ U U' hal hh h => ⟨h.1, h.2.1.mv hal hh, h.2.2.1.al hal, h.2.2.2.1.al hal, h.2.2.2.2.1.mv hal hh, h.2.2.2.2.2.1.there hal hh, h.2.2.2.2.2.2⟩) (fun r U U' V V' h1 hal h2 h => Got.mv r U U' V V' h1 hal h2 h) ?_
  intro p e s m args below meth c s₁ X0 hexec hbytes hml hret hlk hnm hown hh0 W hP
  obtain ⟨rfl, hB, f1, f2, hA, s1, hz, l0, l1, l2, hp⟩ := hP
  have a31 := hA.1.2.2.2
  have c1 : Steps p.tables e below (s₁.setTop (entryFrame m #[.ref a, .ref b, .int (Int32.ofNat o), .int (Int32.ofNat len), .null] 6)) (s₁.setTop (mkF m 0 #[.val (.ref a), .val (.ref b), .val (.int (Int32.ofNat o)), .val (.int (Int32.ofNat len)), .val .null, .unset] [])) := entry rfl
  have c2 : Steps p.tables e below (s₁.setTop (entryFrame m #[.ref a, .ref b, .int (Int32.ofNat o), .int (Int32.ofNat len), .null] 6)) (s₁.setTop (mkF m 1 #[.val (.ref a), .val (.ref b), .val (.int (Int32.ofNat o)), .val (.int (Int32.ofNat len)), .val .null, .unset] [.ref a])) := c1.trans (by
    refine XS.aloadN X0.here hexec rfl (hb hbytes d0) rfl rfl ?_
    exact Steps.refl _)
  obtain ⟨T3, X3, q3, st3⟩ := X0.oinit hexec hown (wks W (objW "java/lang/String" 1)) (g := (mkF m 1 #[.val (.ref a), .val (.ref b), .val (.int (Int32.ofNat o)), .val (.int (Int32.ofNat len)), .val .null, .unset] [.ref a])) rfl (by rw [hml]; rfl) (rest := []) rfl (hb hbytes d1) (W := 0) (by show 2 * 0 + 0 ≤ _; decide) (Nat.le_of_ble_eq_true rfl) (Nat.le_of_ble_eq_true rfl)
  have hh3 := q3.trans hh0
  have c4 : Steps p.tables e below (s₁.setTop (entryFrame m #[.ref a, .ref b, .int (Int32.ofNat o), .int (Int32.ofNat len), .null] 6)) (T3.setTop (mkF m 27 #[.val (.ref a), .val (.ref b), .val (.int (Int32.ofNat o)), .val (.int (Int32.ofNat len)), .val .null, .unset] [])) := (c2.trans (st3 _ (Steps.refl _))).trans (by
    refine XS.iloadN X3.here hexec rfl (hb hbytes d4) rfl ?_
    refine XS.ifYes X3.here hexec rfl (pc0 := 5) rfl (hb hbytes d5) rfl (i0_ne_t (nz32 (by omega) l0)) (by decide) rfl ?_
    exact Steps.refl _)
  obtain ⟨T5, X5, q5, st5⟩ := X3.sget hexec hown (wk W (.fieldLink "java/lang/String" 38 "java/lang/String" "COMPACT_STRINGS" "Z")) s1 (fun _ _ h => by rw [hh3]; exact h) (g := (mkF m 27 #[.val (.ref a), .val (.ref b), .val (.int (Int32.ofNat o)), .val (.int (Int32.ofNat len)), .val .null, .unset] [])) rfl (hb hbytes d27)
  have hh5 := q5.trans hh3
  have c6 : Steps p.tables e below (s₁.setTop (entryFrame m #[.ref a, .ref b, .int (Int32.ofNat o), .int (Int32.ofNat len), .null] 6)) (T5.setTop (mkF m 30 #[.val (.ref a), .val (.ref b), .val (.int (Int32.ofNat o)), .val (.int (Int32.ofNat len)), .val .null, .unset] [.int z])) := c4.trans (st5 _ (Steps.refl _))
  have c7 : Steps p.tables e below (s₁.setTop (entryFrame m #[.ref a, .ref b, .int (Int32.ofNat o), .int (Int32.ofNat len), .null] 6)) (T5.setTop (mkF m 36 #[.val (.ref a), .val (.ref b), .val (.int (Int32.ofNat o)), .val (.int (Int32.ofNat len)), .val .null, .unset] [.int (Int32.ofNat len), .int (Int32.ofNat o), .ref b])) := c6.trans (by
    refine XS.ifNo X5.here hexec rfl (hb hbytes d30) rfl (i0_eq_f hz) ?_
    refine XS.aloadN X5.here hexec rfl (hb hbytes d33) rfl rfl ?_
    refine XS.iloadN X5.here hexec rfl (hb hbytes d34) rfl ?_
    refine XS.iloadN X5.here hexec rfl (hb hbytes d35) rfl ?_
    exact Steps.refl _)
  obtain ⟨v8, T8, X8, E8, g8⟩ := X5.callS hexec (Cmp3.law l b A o len) hown (wks W (staticW "java/lang/String" 177 Cmp3.yN)) (wk W Cmp3.tab) (W := 0) (Nat.le_of_ble_eq_true rfl) (Nat.le_of_ble_eq_true rfl) (Nat.le_refl _) (by show 0 + len ≤ len; omega) (g := (mkF m 36 #[.val (.ref a), .val (.ref b), .val (.int (Int32.ofNat o)), .val (.int (Int32.ofNat len)), .val .null, .unset] [.int (Int32.ofNat len), .int (Int32.ofNat o), .ref b])) rfl (by rw [hml]; rfl) c7 (argsL := [.ref b, .int (Int32.ofNat o), .int (Int32.ofNat len)]) (rest := []) rfl rfl (by show 2 * 0 + 0 ≤ _; decide) (hb hbytes d36) (⟨rfl, hA.mv X5.warmed.alike hh5, l1, l2, hp⟩)
  obtain ⟨e8, z8⟩ := E8
  obtain ⟨rfl, N, n1, n2, n3, n4, n5, n6⟩ := NewArr.mv _ T5 s _ _ hh5.symm (Vm.Alike.refl _) rfl e8
  rw [hh5] at z8
  have hB1 := hB.keep X8.warmed.alike (n6 _ _ hB.1)
  have hne : s.heap.size ≠ a := (Nat.ne_of_lt (Array.getElem?_eq_some_iff.mp hB.1).1).symm
  have c9 : Steps p.tables e below (s₁.setTop (entryFrame m #[.ref a, .ref b, .int (Int32.ofNat o), .int (Int32.ofNat len), .null] 6)) (T8.setTop (mkF m 39 #[.val (.ref a), .val (.ref b), .val (.int (Int32.ofNat o)), .val (.int (Int32.ofNat len)), .val .null, .unset] [.ref s.heap.size])) := g8
  have c10 : Steps p.tables e below (s₁.setTop (entryFrame m #[.ref a, .ref b, .int (Int32.ofNat o), .int (Int32.ofNat len), .null] 6)) (T8.setTop (mkF m 45 #[.val (.ref a), .val (.ref b), .val (.int (Int32.ofNat o)), .val (.int (Int32.ofNat len)), .val .null, .val (.ref s.heap.size)] [.int (Int32.ofNat N.slots.size), .ref s.heap.size, .ref a])) := by
    have hc : Steps p.tables e below (s₁.setTop (entryFrame m #[.ref a, .ref b, .int (Int32.ofNat o), .int (Int32.ofNat len), .null] 6)) (T8.setTop (mkF m 45 #[.val (.ref a), .val (.ref b), .val (.int (Int32.ofNat o)), .val (.int (Int32.ofNat len)), .val .null, .val (.ref s.heap.size)] [.int (Int32.ofNat len), .ref s.heap.size, .ref a])) := c9.trans (by
      refine XS.astore X8.here hexec rfl (hb hbytes d39) rfl rfl rfl ?_
      refine XS.aloadN X8.here hexec rfl (hb hbytes d41) rfl rfl ?_
      refine XS.aload X8.here hexec rfl (hb hbytes d42) rfl rfl ?_
      refine XS.iloadN X8.here hexec rfl (hb hbytes d44) rfl ?_
      exact Steps.refl _)
    rw [n4]; exact hc
  obtain ⟨v11, T11, X11, E11, g11⟩ := X8.callS hexec (CodL.law l s.heap.size N) hown (wks W (staticW "java/lang/String" 47 CodL.yN)) (wk W CodL.tab) (W := 1) (Nat.le_of_ble_eq_true rfl) (Nat.le_of_ble_eq_true rfl) (Nat.le_refl _) (by show 0 + len + 0 ≤ len; omega) (g := (mkF m 45 #[.val (.ref a), .val (.ref b), .val (.int (Int32.ofNat o)), .val (.int (Int32.ofNat len)), .val .null, .val (.ref s.heap.size)] [.int (Int32.ofNat N.slots.size), .ref s.heap.size, .ref a])) rfl (by rw [hml]; rfl) c10 (argsL := [.ref s.heap.size, .int (Int32.ofNat N.slots.size)]) (rest := [.ref a]) rfl rfl (by show 2 * 0 + (1 + 0) ≤ _; decide) (hb hbytes d45) (⟨rfl, n1⟩)
  obtain ⟨rfl, q11⟩ := E11
  have hB11 := hB1.mv (X8.warmed.alike.symm.trans X11.warmed.alike) q11
  have c12 : Steps p.tables e below (s₁.setTop (entryFrame m #[.ref a, .ref b, .int (Int32.ofNat o), .int (Int32.ofNat len), .null] 6)) (T11.setTop (mkF m 48 #[.val (.ref a), .val (.ref b), .val (.int (Int32.ofNat o)), .val (.int (Int32.ofNat len)), .val .null, .val (.ref s.heap.size)] [.int 0, .ref a])) := g11
  obtain ⟨T13, X13, p13, bl13, sl13, st13⟩ := X11.finit hexec hown (wk W (.fieldLink "java/lang/String" 15 "java/lang/String" "coder" "B")) (Or.inr ⟨_, (wk W (.laysFinal "java/lang/String" "java/lang/String" "coder" "B"))⟩) (Or.inl ⟨rfl, hnm⟩) f2 (Or.inl rfl) hB11 (t := .byte) (by decide +kernel) rfl (g := (mkF m 48 #[.val (.ref a), .val (.ref b), .val (.int (Int32.ofNat o)), .val (.int (Int32.ofNat len)), .val .null, .val (.ref s.heap.size)] [.int 0, .ref a])) rfl (rest := []) rfl (hb hbytes d48)
  have c14 : Steps p.tables e below (s₁.setTop (entryFrame m #[.ref a, .ref b, .int (Int32.ofNat o), .int (Int32.ofNat len), .null] 6)) (T13.setTop (mkF m 54 #[.val (.ref a), .val (.ref b), .val (.int (Int32.ofNat o)), .val (.int (Int32.ofNat len)), .val .null, .val (.ref s.heap.size)] [.ref s.heap.size, .ref a])) := (c12.trans (st13 _ (Steps.refl _))).trans (by
    refine XS.aloadN X13.here hexec rfl (hb hbytes d51) rfl rfl ?_
    refine XS.aload X13.here hexec rfl (hb hbytes d52) rfl rfl ?_
    exact Steps.refl _)
  obtain ⟨T15, X15, p15, bl15, sl15, st15⟩ := X13.finit hexec hown (wk W (.fieldLink "java/lang/String" 9 "java/lang/String" "value" "[B")) (Or.inr ⟨_, (wk W (.laysFinal "java/lang/String" "java/lang/String" "value" "[B"))⟩) (Or.inl ⟨rfl, hnm⟩) f1 (Or.inl rfl) bl13 (t := (.array .byte)) (by decide +kernel) rfl (g := (mkF m 54 #[.val (.ref a), .val (.ref b), .val (.int (Int32.ofNat o)), .val (.int (Int32.ofNat len)), .val .null, .val (.ref s.heap.size)] [.ref s.heap.size, .ref a])) rfl (rest := []) rfl (hb hbytes d54)
  have c16 : Steps p.tables e below (s₁.setTop (entryFrame m #[.ref a, .ref b, .int (Int32.ofNat o), .int (Int32.ofNat len), .null] 6)) (T15.setTop (mkF m 57 #[.val (.ref a), .val (.ref b), .val (.int (Int32.ofNat o)), .val (.int (Int32.ofNat len)), .val .null, .val (.ref s.heap.size)] [])) := c14.trans (st15 _ (Steps.refl _))
  have ap := apart (Or.inr ⟨_, (wk W (.laysFinal "java/lang/String" "java/lang/String" "value" "[B"))⟩) (Or.inr ⟨_, (wk W (.laysFinal "java/lang/String" "java/lang/String" "coder" "B"))⟩) f1 f2 (t₁ := .array .byte) (t₂ := .byte) (by decide +kernel) (by decide +kernel) (by decide)
  have al := X8.warmed.alike.symm.trans X15.warmed.alike
  have n7 : T11.heap[s.heap.size]? = some N := by rw [q11]; exact n1.1
  exact ⟨T15, none, _, _, _, X15, by simp, rfl, by omega, (fun _ => rfl), ⟨rfl, _, N, bl15, ((Same.refl D _).set _ (by simp)).set _ (by simp), sl15, (Cell.slots_setSlot_ne _ ap).trans sl13, n1.keep al (p15.other hne (p13.other hne n7)), n2, by rw [al.findClass]; exact n3, n4, n5, fun y c h1 h2 => p15.other h1 (p13.other h1 (by rw [q11]; exact n6 y c h2)), by rw [p15.2.2, p13.2.2, q11]; exact z8⟩, fun fs hl => c16.trans (X15.returnOut hexec hret (hb hbytes d57) hl)⟩
end New4
namespace New1
def yN : MethodName := ⟨"java/lang/String", "<init>", "([C)V"⟩
abbrev yB : ByteArray := jdk_42_method_3_code
theorem d0 : decode yB 0 = .ok (.aload_n 0, 1) := by decide +kernel
theorem d1 : decode yB 1 = .ok (.aload_n 1, 1) := by decide +kernel
theorem d2 : decode yB 2 = .ok (.iconst 0, 1) := by decide +kernel
theorem d3 : decode yB 3 = .ok (.aload_n 1, 1) := by decide +kernel
theorem d4 : decode yB 4 = .ok (.arraylength, 1) := by decide +kernel
theorem d5 : decode yB 5 = .ok (.aconst_null, 1) := by decide +kernel
theorem d6 : decode yB 6 = .ok (.invokespecial 27, 3) := by decide +kernel
theorem d9 : decode yB 9 = .ok (.return_, 1) := by decide +kernel
def site : List Cond := [New4.tab] ++ initW "java/lang/String" 27 New4.yN
def tab : Cond := tabOf yN yB 2 none site
def P (a : Addr) (D : Cell) (fV fC : Field) (b : Addr) (A : Cell) (z : Int32) (args : Array Value) (s : State) : Prop := args = #[.ref a, .ref b] ∧ Blank "java/lang/String" a D s ∧ Found "java/lang/String" "value" "[B" fV s ∧ Found "java/lang/String" "coder" "B" fC s ∧ Ch b A s ∧ StaticIs s "java/lang/String" "COMPACT_STRINGS" "Z" (.int z) ∧ ¬ z = 0 ∧ 0 < A.slots.size ∧ A.slots.size ≤ 536870912 ∧ ∀ i, i < A.slots.size → ¬ 255 < cv A i
def E (a : Addr) (D : Cell) (fV fC : Field) (A : Cell) (r : Option Value) (s u : State) : Prop := Got a D fV fC A 0 A.slots.size r s u
/-- new String(chars), not empty, no char above 255: a Latin-1 String of their low bytes -/
theorem law (l : Launch) (a : Addr) (D : Cell) (fV fC : Field) (b : Addr) (A : Cell) (z : Int32) : Law l yN 2 1 3 52 yB 2 none site (P a D fV fC b A z) (E a D fV fC A) [⟨a, fC.slot⟩, ⟨a, fV.slot⟩] 1 A.slots.size := by
  refine Law.of_walk (plainFor_of_name (by decide +kernel)) (by decide +kernel) (by decide +kernel) (by decide) (fun _ _ h => by rw [h.1]; rfl) (fun _ U U' hal hh h => ⟨h.1, h.2.1.mv hal hh, h.2.2.1.al hal, h.2.2.2.1.al hal, h.2.2.2.2.1.mv hal hh, h.2.2.2.2.2.1.there hal hh, h.2.2.2.2.2.2⟩) (fun r U U' V V' h1 hal h2 h => Got.mv r U U' V V' h1 hal h2 h) ?_
  intro p e s m args below meth c s₁ X0 hexec hbytes hml hret hlk hnm hown hh0 W hP
  obtain ⟨rfl, hB, f1, f2, hA, s1, hz, l0, l2, hp⟩ := hP
  have c1 : Steps p.tables e below (s₁.setTop (entryFrame m #[.ref a, .ref b] 2)) (s₁.setTop (mkF m 0 #[.val (.ref a), .val (.ref b)] [])) := entry rfl
  have c2 : Steps p.tables e below (s₁.setTop (entryFrame m #[.ref a, .ref b] 2)) (s₁.setTop (mkF m 6 #[.val (.ref a), .val (.ref b)] [.null, .int (Int32.ofNat A.slots.size), .int 0, .ref b, .ref a])) := c1.trans (by
    refine XS.aloadN X0.here hexec rfl (hb hbytes d0) rfl rfl ?_
    refine XS.aloadN X0.here hexec rfl (hb hbytes d1) rfl rfl ?_
    refine iconstV X0.here hexec rfl 0 (hb hbytes d2) (by decide) ?_
    refine XS.aloadN X0.here hexec rfl (hb hbytes d3) rfl rfl ?_
    refine X0.alen hexec (hA.1.mv X0.warmed.alike hh0) rfl rfl (hb hbytes d4) ?_
    refine XS.aconstNull X0.here hexec rfl (hb hbytes d5) ?_
    exact Steps.refl _)
  obtain ⟨v3, T3, X3, E3, g3⟩ := X0.callN hexec (New4.law l a D fV fC b A z 0 A.slots.size) rfl hown (wks W (initW "java/lang/String" 27 New4.yN)) (W New4.tab (by simp only [site, List.mem_cons, List.mem_append, true_or, or_true])) (W := 0) (Nat.le_of_ble_eq_true rfl) (Nat.le_of_ble_eq_true rfl) (Nat.le_refl _) (by show 0 + A.slots.size ≤ A.slots.size; omega) (g := (mkF m 6 #[.val (.ref a), .val (.ref b)] [.null, .int (Int32.ofNat A.slots.size), .int (Int32.ofNat 0), .ref b, .ref a])) rfl (by rw [hml]; rfl) c2 (argsL := [.ref b, .int (Int32.ofNat 0), .int (Int32.ofNat A.slots.size), .null]) (rest := []) rfl rfl (by show 2 * 0 + 0 ≤ _; decide) (hb hbytes d6) (⟨rfl, hB.mv X0.warmed.alike hh0, f1.al X0.warmed.alike, f2.al X0.warmed.alike, hA.mv X0.warmed.alike hh0, s1.there X0.warmed.alike hh0, hz, l0, by omega, l2, fun i hi => by rw [Nat.zero_add]; exact hp i hi⟩)
  have e0 := Got.mv _ s₁ s _ _ hh0.symm (Vm.Alike.refl _) rfl E3
  obtain rfl := e0.1
  have c4 : Steps p.tables e below (s₁.setTop (entryFrame m #[.ref a, .ref b] 2)) (T3.setTop (mkF m 9 #[.val (.ref a), .val (.ref b)] [])) := g3
  exact ⟨T3, none, _, _, _, X3, by simp, rfl, by omega, (fun _ => rfl), e0, fun fs hl => c4.trans (X3.returnOut hexec hret (hb hbytes d9) hl)⟩
theorem pays {l : Launch} {R : Room} {p : Program} {e : Env} {below : List Frame} {s : State} {sargs : Array Value} {len W : Nat} (a : Addr) (D : Cell) (fV fC : Field) (b : Addr) (A : Cell) (z : Int32) (htab : tab.before sargs s = true) (hfr : 4 ≤ R.frames) (hlo : W + 65 ≤ R.locals) :
    Back l R p e below s sargs yN len W (fun A₁ a₁ => A₁.cells + 1 ≤ R.cells ∧ A₁.slots + A.slots.size ≤ R.slots ∧ P a D fV fC b A z a₁ A₁.U) (fun A₁ _ v₁ B₁ => E a D fV fC A v₁ A₁.U B₁.U ∧ B₁.locs = A₁.locs ++ [⟨a, fC.slot⟩, ⟨a, fV.slot⟩] ∧ B₁.cells = A₁.cells + 1 ∧ B₁.slots = A₁.slots + A.slots.size) :=
  (law l a D fV fC b A z).pays htab hfr (by omega)
end New1
/-- the byte, read back as charAt reads it, is the char -/
theorem lo8_mask {x : Int32} (h0 : ¬ x < 0) (h1 : ¬ 255 < x) : lo8 x &&& 255 = x := by
  have t : ∀ k : Fin 256, lo8 (Int32.ofNat k.val) &&& 255 = Int32.ofNat k.val := by decide +kernel
  rw [Int32.lt_iff_toInt_lt] at h0 h1
  have e0 : (0 : Int32).toInt = 0 := rfl
  have e1 : (255 : Int32).toInt = 255 := rfl
  obtain ⟨k, hk⟩ : ∃ k : Nat, x.toInt = k := ⟨x.toInt.toNat, by omega⟩
  have hx : x = Int32.ofNat k := Int32.toInt_inj.mp (by rw [hk, Int32.toInt_ofNat_small (by omega)])
  rw [hx]
  exact t ⟨k, by omega⟩
end StrChars
namespace StrChars.Road
open Jvm Sem ClassFile Op Lib Jvm.Stand Jvm.Free Jvm.Free.XT
open Jvm.Lib.Cold (StaticIs)
abbrev ST : String := "java/lang/String"
/-- every table word that New1's law asks, flat -/
abbrev words : List Jvm.Cond := [.code New1.yN New1.yB 2 none, .initialized ST, .methodLink ST 27 New4.yN, .instanceMethod New4.yN,
  .code New4.yN New4.yB 6 none, .fieldLink ST 38 ST "COMPACT_STRINGS" "Z", .laysFinal ST ST "value" "[B", .fieldLink ST 9 ST "value" "[B", .laysFinal ST ST "coder" "B", .fieldLink ST 15 ST "coder" "B",
  .methodLink ST 1 Lib.objectInit, .instanceMethod Lib.objectInit, .code Lib.objectInit ⟨#[0xb1]⟩ 1 none, .methodLink ST 177 Cmp3.yN, .static Cmp3.yN, .methodLink ST 47 CodL.yN, .static CodL.yN,
  .code Cmp3.yN Cmp3.yB 6 (some (.array .byte)), .initialized U16, .arrayClass .byte, .methodLink U16 115 Cmp5.yN, .static Cmp5.yN, .code Cmp5.yN Cmp5.yB 7 (some .int), .code CodL.yN CodL.yB 2 (some .byte)]
theorem tab_of {a : Array Value} {s : State} (h : ∀ w ∈ words, w.before a s = true) : New1.tab.before a s = true := by
  have h5 : Cmp5.tab.before a s = true := unparts (wk h (.code Cmp5.yN Cmp5.yB 7 (some .int))) (wks h (.initialized Cmp5.yN.cls :: Cmp5.site))
  have hc : CodL.tab.before a s = true := unparts (wk h (.code CodL.yN CodL.yB 2 (some .byte))) (wks h (.initialized CodL.yN.cls :: CodL.site))
  have q5 : ∀ w ∈ Cmp5.tab :: words, w.before a s = true := fun w hw => (List.mem_cons.mp hw).elim (fun e => e ▸ h5) (h w)
  have h3 : Cmp3.tab.before a s = true := unparts (wk q5 (.code Cmp3.yN Cmp3.yB 6 (some (.array .byte)))) (wks q5 (.initialized Cmp3.yN.cls :: Cmp3.site))
  have q3 : ∀ w ∈ Cmp3.tab :: CodL.tab :: words, w.before a s = true := fun w hw => (List.mem_cons.mp hw).elim (fun e => e ▸ h3) fun hw => (List.mem_cons.mp hw).elim (fun e => e ▸ hc) (h w)
  have h4 : New4.tab.before a s = true := unparts (wk q3 (.code New4.yN New4.yB 6 none)) (wks q3 (.initialized New4.yN.cls :: New4.site))
  have q4 : ∀ w ∈ New4.tab :: words, w.before a s = true := fun w hw => (List.mem_cons.mp hw).elim (fun e => e ▸ h4) (h w)
  exact unparts (wk q4 (.code New1.yN New1.yB 2 none)) (wks q4 (.initialized New1.yN.cls :: New1.site))
/-- the words ride from the start Z to the walk's own state -/
theorem moved {Z s : State} {a0 args : Array Value} (hZ : Z.Warmed39 s.vm) (hw : ∀ d ∈ words, d.before a0 Z = true) : ∀ d ∈ words, d.before args s = true := fun d hd => by
  have q := hw d hd
  have t : ∀ d ∈ words, d = .arrayClass .byte ∨ (d.onTables && d.keepsFace) = true := by decide +kernel
  rcases t d hd with rfl | t
  · exact RoadKit.mvA hZ q
  · exact RoadKit.mv hZ q t
/-- WHAT COMES BACK, over the tables of the start Z: h the heap at the call, h' behind it -/
def Q (Z : State) (x : Addr) (A : Cell) (h : Heap) (v : Option Value) (h' : Heap) (L : List Loc) : Prop := v = none ∧ (∀ y ∈ L, y.base = x) ∧ RoadKit.Keep h h' [x] ∧ h'.size = h.size + 1 ∧ RoadKit.Exa Z h' x ST ∧ RoadKit.Fld Z h' x ST "value" "[B" (.ref h.size) ∧ RoadKit.Fld Z h' x ST "coder" "B" (.int 0) ∧
  (∃ V : Cell, RoadKit.Arr Z h' h.size V .byte ∧ V.vm = .none ∧ Z.vm.findClass "[B" = some V.cls ∧ V.slots.size = A.slots.size ∧ ∀ j, j < A.slots.size → V.slots[j]? = some (.int (lo8 (cv A j)))) ∧
  ∀ (O n d : String) (w : Value), RoadKit.Fld Z h x O n d w → RoadKit.slotOf Z O n d ≠ RoadKit.slotOf Z ST "value" "[B" → RoadKit.slotOf Z O n d ≠ RoadKit.slotOf Z ST "coder" "B" → RoadKit.Fld Z h' x O n d w
/-- **new String(chars) AT A CALL, IN THE ROAD'S FORM**: for specialBack behind newO: x the fresh String, b the char[] with the cell A -/
theorem back {p : Program} {l : Launch} {e : Env} {R : Room} {s : State} {args : Array Value} {below : List Frame} {len W : Nat} {Z : State} {a0 : Array Value} {h : Heap} (hZ : Z.Warmed39 s.vm) (hw : ∀ d ∈ words, d.before a0 Z = true) {kI : Nat} (wi : (Jvm.Cond.instantiable ST kI).before a0 Z = true)
    {x b : Addr} {A : Cell} {z : Int32} {v0 c0 : Value} (E : RoadKit.Exa Z h x ST) (V : RoadKit.Fld Z h x ST "value" "[B" v0) (C : RoadKit.Fld Z h x ST "coder" "B" c0) (K : RoadKit.Arr Z h b A .char) (hty : Typed .char A) (S : RoadKit.Sta Z h ST "COMPACT_STRINGS" "Z" (.int z)) (hz : ¬ z = 0)
    (l0 : 0 < A.slots.size) (l2 : A.slots.size ≤ 536870912) (hp : ∀ i, i < A.slots.size → ¬ 255 < cv A i) (hfr : 4 ≤ R.frames) (hlo : W + 65 ≤ R.locals) :
    Back l R p e below s args New1.yN len W (fun P a => a = #[.ref x, .ref b] ∧ P.U.heap = h ∧ P.cells + 1 ≤ R.cells ∧ P.slots + A.slots.size ≤ R.slots)
      (fun P _ v B => ∃ L, Q Z x A h v B.U.heap L ∧ B.locs = P.locs ++ L ∧ B.cells = P.cells + 1 ∧ B.slots = P.slots + A.slots.size) := by
  intro m meth c P g ig mk a X hg hsize hdg hW hn hp'
  obtain ⟨rfl, rfl, r1, r2⟩ := hp'
  have al : Z.vm.Alike P.U.vm := hZ.alike.trans X.warmed.alike
  obtain ⟨D, cfV, kV, iV, fV, hD, gV, stV, knV, obV, asV, slV⟩ := id V
  obtain ⟨D', cfC, kC, iC, fC, hD', gC, stC, -, -, asC, slC⟩ := id C
  cases hD.symm.trans hD'
  obtain ⟨D2, kD, e1, e2, e3, e4, e5⟩ := id E
  cases hD.symm.trans e1
  obtain ⟨c2, k2, i1, i2, i3, -⟩ := Cond.instantiable_spec wi
  cases e2.symm.trans i1
  cases e3.symm.trans i2
  obtain ⟨kU, u1, u2⟩ := al.2.2 _ _ e3
  have hB : Blank ST x D P.U := ⟨hD, ⟨knV, fun q hq => by rw [hq] at obV; cases obV⟩, by rw [al.findClass]; exact e2, kU, u1, by rw [u2]; exact i3, by rw [u2]; exact e5 i3⟩
  have F1 : Found ST "value" "[B" fV P.U := ⟨SBG.found_only al ⟨cfV, kV, iV, gV⟩, stV⟩
  have F2 : Found ST "coder" "B" fC P.U := ⟨SBG.found_only al ⟨cfC, kC, iC, gC⟩, stC⟩
  have hA : Ch b A P.U := ⟨⟨K.1, State.isArrayOf_alike al K.2.1, K.2.2, by omega⟩, hty⟩
  have hS : StaticIs P.U ST "COMPACT_STRINGS" "Z" (.int z) := by
    obtain ⟨cfS, iS, kS, fS, st, cS, t1, t2, t3, t4, t5, t6, t7⟩ := S
    exact StaticIs.there (s := { Z with heap := P.U.heap }) ⟨cfS, iS, kS, fS, st, cS, t1, t2, t3, t4, t5, (fun q => by rw [q] at t6; cases t6), t7⟩ al rfl
  obtain ⟨v, B, X', ⟨⟨hv, E', V', q1, q2, q3, q4, q5, q6, q7, q8, q9, q10, q11⟩, hl, hc, hs⟩, st⟩ := New1.pays x D fV fC b A z (tab_of (moved hZ hw)) hfr hlo m meth c P g ig mk _ X hg hsize hdg hW hn ⟨r1, r2, rfl, hB, F1, F2, hA, hS, hz, l0, l2, hp⟩
  have al' : Z.vm.Alike B.U.vm := hZ.alike.trans X'.warmed.alike
  have hsz : E'.slots.size = D.slots.size := by
    obtain ⟨-, -, -, kB, w1, w2, w3⟩ := q1
    obtain ⟨kB', y1, y2⟩ := al'.2.2 _ _ e3
    rw [q2.2.1] at w1
    cases w1.symm.trans y1
    rw [w3, e5 i3, y2]
  refine ⟨v, B, X', ⟨_, ⟨hv, ?_, ⟨by omega, fun y cy hy hn' => q10 y cy (by simpa using hn') hy, fun y cy hy => ?_⟩, q11, ⟨E', _, q1.1, by rw [q2.2.1]; exact e2, by rw [q2.2.1]; exact e3, by rw [q2.1]; exact obV, fun _ => by rw [hsz]; exact e5 i3⟩,
    ⟨E', cfV, kV, iV, fV, q1.1, gV, stV, by rw [q2.1]; exact knV, by rw [q2.1]; exact obV, by rw [q2.2.1]; exact asV, q3⟩, ⟨E', cfC, kC, iC, fC, q1.1, gC, stC, by rw [q2.1]; exact knV, by rw [q2.1]; exact obV, by rw [q2.2.1]; exact asC, q4⟩,
    ⟨V', ⟨q5.1, State.isArrayOf_alike al'.symm q5.2.1, q5.2.2.1⟩, q6, by rw [← al'.findClass]; exact q7, q8, fun j hj => by have := q9 j hj; rwa [Nat.zero_add] at this⟩, fun O n d w F n1 n2 => ?_⟩, hl, hc, hs⟩, st⟩
  · intro y hy
    simp only [List.mem_cons, List.not_mem_nil, or_false] at hy
    rcases hy with rfl | rfl <;> rfl
  · by_cases q : y = x
    · subst q
      cases hD.symm.trans hy
      exact ⟨E', q1.1, q2.2.1, q2.1, hsz⟩
    · exact ⟨cy, q10 y cy q hy, rfl, rfl, rfl⟩
  · obtain ⟨D3, cf, k, i, f, g1, g2, g3, g4, g5, g6, g7⟩ := F
    cases hD.symm.trans g1
    simp only [RoadKit.slotOf, g2, gV, gC, Option.map_some, Option.getD_some] at n1 n2
    exact ⟨E', cf, k, i, f, q1.1, g2, g3, by rw [q2.1]; exact g4, by rw [q2.1]; exact g5, by rw [q2.2.1]; exact g6, by rw [q2.2.2 f.slot (by simp [n1, n2])]; exact g7⟩
end StrChars.Road
namespace StrChars.Road
open Jvm Sem ClassFile Op Lib Jvm.Stand Jvm.Free Jvm.Free.XT
/-- WHAT COMES BACK, the byte[] as a list of values -/
def QA (Z : State) (x : Addr) (zn : Int32) (cs : List Int32) (h : Heap) (v : Option Value) (h' : Heap) (L : List Loc) : Prop := v = none ∧ (∀ y ∈ L, y.base = x) ∧ RoadKit.Keep h h' [x] ∧ h'.size = h.size + 1 ∧ RoadKit.Exa Z h' x ST ∧ RoadKit.Fld Z h' x ST "value" "[B" (.ref h.size) ∧ RoadKit.Fld Z h' x ST "coder" "B" (.int 0) ∧
  (∃ kb, Z.vm.findClass "[B" = some kb ∧ RoadKit.Arv Z h' h.size kb .byte zn (cs.map fun c => .int (lo8 c)) (.int 0)) ∧
  ∀ (O n d : String) (w : Value), RoadKit.Fld Z h x O n d w → RoadKit.slotOf Z O n d ≠ RoadKit.slotOf Z ST "value" "[B" → RoadKit.slotOf Z O n d ≠ RoadKit.slotOf Z ST "coder" "B" → RoadKit.Fld Z h' x O n d w
/-- **new String(chars) AT A CALL, THE ARRAYS AS LISTS**: the char[] at b holds cs, not empty, no char above 255 -/
theorem backArv {p : Program} {l : Launch} {e : Env} {R : Room} {s : State} {args : Array Value} {below : List Frame} {len W : Nat} {Z : State} {a0 : Array Value} {h : Heap} (hZ : Z.Warmed39 s.vm) (hw : ∀ d ∈ words, d.before a0 Z = true) {kI : Nat} (wi : (Jvm.Cond.instantiable ST kI).before a0 Z = true)
    {x b : Addr} {k : ClassId} {zn z : Int32} {cs : List Int32} {dv v0 c0 : Value} (E : RoadKit.Exa Z h x ST) (V : RoadKit.Fld Z h x ST "value" "[B" v0) (C : RoadKit.Fld Z h x ST "coder" "B" c0) (K : RoadKit.Arv Z h b k .char zn (cs.map Value.int) dv) (S : RoadKit.Sta Z h ST "COMPACT_STRINGS" "Z" (.int z)) (hz : ¬ z = 0)
    (hlen : zn.toNatClampNeg = cs.length) (h0 : 0 < cs.length) (hbig : cs.length ≤ 536870912) (hall : ∀ c ∈ cs, ¬ 255 < c) (hfr : 4 ≤ R.frames) (hlo : W + 65 ≤ R.locals) :
    Back l R p e below s args New1.yN len W (fun P a => a = #[.ref x, .ref b] ∧ P.U.heap = h ∧ P.cells + 1 ≤ R.cells ∧ P.slots + cs.length ≤ R.slots)
      (fun P _ v B => ∃ L, QA Z x zn cs h v B.U.heap L ∧ B.locs = P.locs ++ L ∧ B.cells = P.cells + 1 ∧ B.slots = P.slots + cs.length) := by
  obtain ⟨A, K1, K2, K3, K4, K5, K6⟩ := K
  have e : A.slots.size = cs.length := K3.trans hlen
  have hat : ∀ (i : Nat) (hi : i < cs.length), A.slots[i]? = some (.int cs[i]) := fun i hi => by rw [K5 i (by omega)]; simp [List.getD_eq_getElem?_getD, hi]
  have hcv : ∀ (i : Nat) (hi : i < cs.length), cv A i = cs[i] := fun i hi => by unfold cv; rw [hat i hi]
  have hty : Typed .char A := fun i v hv => by
    have hi : i < A.slots.size := (Array.getElem?_eq_some_iff.mp hv).1
    have q := K5 i hi
    rw [hv] at q
    rw [Option.some.inj q]
    exact K6 i hi
  refine Back.mono (back hZ hw wi E V C K1 hty S hz (by omega) (by omega) (fun i hi => by rw [hcv i (by omega)]; exact hall _ (List.getElem_mem _)) hfr hlo) (fun P a hp => ⟨hp.1, hp.2.1, hp.2.2.1, by rw [e]; exact hp.2.2.2⟩) (fun P a v B hp hq => ?_)
  obtain ⟨L, ⟨q1, q2, q3, q4, q5, q6, q7, ⟨V', v1, v2, v3, v4, v5⟩, q9⟩, hl, hc, hs⟩ := hq
  refine ⟨L, ⟨q1, q2, q3, q4, q5, q6, q7, ⟨V'.cls, v3, V', v1, rfl, by rw [v4, e, hlen], K4, fun i hi => ?_, fun i hi => ?_⟩, q9⟩, hl, hc, by rw [hs, e]⟩
  · have hi' : i < cs.length := by omega
    rw [v5 i (by omega), hcv i hi']; simp [List.getD_eq_getElem?_getD, hi']
  · have hi' : i < cs.length := by omega
    simp only [List.getD_eq_getElem?_getD, List.getElem?_map, List.getElem?_eq_getElem hi', Option.map_some, Option.getD_some]
    exact fits_lo8 _
end StrChars.Road
namespace StrChars.Road
open Jvm Sem ClassFile Op Lib Jvm.Stand Jvm.Free Jvm.Free.XT
/-- WHAT COMES BACK, in the writer's own shape -/
def QV (Z : State) (x : Addr) (N : Int32) (bs : List Int32) (h : Heap) (n0 : Nat) (v : Option Value) (h' : Heap) (L : List Loc) : Prop := v = none ∧ RoadKit.Fr n0 L ∧ RoadKit.Keep h h' [x] ∧ RoadKit.Exa Z h' x ST ∧ RoadKit.Fld Z h' x ST "coder" "B" (.int 0) ∧
  ∃ (t : Addr) (kb : ClassId), n0 ≤ t ∧ h.size ≤ t ∧ ¬ t = x ∧ RoadKit.Fld Z h' x ST "value" "[B" (.ref t) ∧ RoadKit.Arv Z h' t kb .byte N (bs.map Value.int) (.int 0)
/-- **new String(chars) AT A CALL, FOR THE WRITER**: a char[] of n known ints, each 0 to 255 -/
theorem backV {p : Program} {l : Launch} {e : Env} {R : Room} {s : State} {args : Array Value} {below : List Frame} {len W : Nat} {Z : State} {a0 : Array Value} {h : Heap} (hZ : Z.Warmed39 s.vm) (hw : ∀ d ∈ words, d.before a0 Z = true) {kI : Nat} (wi : (Jvm.Cond.instantiable ST kI).before a0 Z = true)
    {x b : Addr} {kC : ClassId} {cs bs : List Int32} {d v0 c0 : Value} {z N : Int32} {n n0 : Nat} (hx0 : n0 ≤ x) (hh0 : n0 ≤ h.size) (E : RoadKit.Exa Z h x ST) (V : RoadKit.Fld Z h x ST "value" "[B" v0) (C : RoadKit.Fld Z h x ST "coder" "B" c0) (K : RoadKit.Arv Z h b kC .char N (cs.map Value.int) d) (S : RoadKit.Sta Z h ST "COMPACT_STRINGS" "Z" (.int z)) (hz : ¬ z = 0)
    (hn : cs.length = n) (hN : N = Int32.ofNat n) (l0 : 0 < n) (l2 : n ≤ 4000) (hp : ∀ c ∈ cs, ¬ c < 0 ∧ ¬ (255 : Int32) < c) (hb : bs = cs.map (fun c => c.toInt8.toInt32)) (hfr : 4 ≤ R.frames) (hlo : W + 65 ≤ R.locals) :
    Back l R p e below s args (⟨"java/lang/String", "<init>", "([C)V"⟩ : MethodName) len W (fun P a => a = #[.ref x, .ref b] ∧ P.U.heap = h ∧ P.cells + 1 ≤ R.cells ∧ P.slots + n ≤ R.slots)
      (fun P _ v B => ∃ L, QV Z x N bs h n0 v B.U.heap L ∧ B.locs = P.locs ++ L ∧ B.cells = P.cells + 1 ∧ B.slots = P.slots + n) := by
  subst hn hN hb
  refine Back.mono (backArv hZ hw wi E V C K S hz (n32 (by omega)) l0 (by omega) (fun c hc => (hp c hc).2) hfr hlo) (fun P a hp => hp) (fun P a v B hp hq => ?_)
  obtain ⟨L, ⟨q1, q2, q3, q4, q5, q6, q7, ⟨kb, v1, v2⟩, q9⟩, hl, hc, hs⟩ := hq
  exact ⟨L, ⟨q1, fun y hy => by rw [q2 y hy]; exact hx0, q3, q5, q7, h.size, kb, hh0, Nat.le_refl _, Nat.ne_of_gt E.lt, q6, by rw [List.map_map]; exact v2⟩, hl, hc, hs⟩
end StrChars.Road
namespace StrChars
open Jvm Sem ClassFile Op Lib Jvm.Stand Jvm.Free.XT Jvm.Free.ALB Jvm.Free.JM Jvm.Free
open Jvm.Lib.Cold (StaticIs)
def hi8 (x : Int32) : Int32 := lo8 (x >>> ((8 : Int32) &&& 31))
/-- what StringUTF16.getChar makes of two bytes -/
def pairCh (u v : Int32) : Int32 := (((u &&& 255) <<< ((0 : Int32) &&& 31)) ||| ((v &&& 255) <<< ((8 : Int32) &&& 31))).toUInt32.toUInt16.toUInt32.toInt32
theorem lo8_and (x : Int32) : (lo8 x &&& 255).toBitVec.toNat = x.toBitVec.toNat % 256 := by
  have h : (lo8 x).toBitVec = (x.toBitVec.signExtend 8).signExtend 32 := by rw [lo8, Int8.toBitVec_toInt32, Int32.toBitVec_toInt8]
  rw [Int32.toBitVec_and, BitVec.toNat_and, h]
  have e : ((x.toBitVec.signExtend 8).signExtend 32).toNat % 256 = x.toBitVec.toNat % 256 := by
    rw [BitVec.toNat_signExtend]
    have hlt := x.toBitVec.isLt
    simp only [BitVec.toNat_setWidth, BitVec.toNat_signExtend]
    split <;> split <;> omega
  rw [← e]
  exact Nat.and_two_pow_sub_one_eq_mod _ 8
theorem pair_says {c : Int32} (h0 : ¬ c < 0) (h1 : ¬ 65535 < c) : pairCh (lo8 c) (hi8 c) = c := by
  rw [Int32.lt_iff_toInt_lt] at h0 h1
  have e0 : (0 : Int32).toInt = 0 := rfl
  have e1 : (65535 : Int32).toInt = 65535 := rfl
  have hc : c.toInt = c.toBitVec.toNat := by
    have := c.toBitVec.isLt
    have e : c.toInt = c.toBitVec.toInt := rfl
    rw [e] at h0 h1
    rw [e]
    rw [BitVec.toInt_eq_toNat_cond] at h0 h1 ⊢
    split at h0 <;> split <;> omega
  have hn : c.toBitVec.toNat < 65536 := by omega
  have a1 := lo8_and c
  have a2 : (hi8 c &&& 255).toBitVec.toNat = c.toBitVec.toNat / 256 := by
    rw [hi8, lo8_and]
    have e : ((8 : Int32) &&& 31) = 8 := by decide
    rw [e, Int32.toBitVec_shiftRight]
    have e2 : ((8 : Int32).toBitVec.smod 32) = 8#32 := by decide
    rw [e2, BitVec.sshiftRight_eq', BitVec.toNat_sshiftRight_of_msb_false (by rw [BitVec.msb_eq_false_iff_two_mul_lt]; omega)]
    show c.toBitVec.toNat >>> 8 % 256 = _
    rw [Nat.shiftRight_eq_div_pow]
    omega
  unfold pairCh
  apply Int32.toBitVec_inj.mp
  apply BitVec.eq_of_toNat_eq
  have f0 : ((0 : Int32) &&& 31) = 0 := by decide
  have f8 : ((8 : Int32) &&& 31) = 8 := by decide
  rw [f0, f8]
  have g : (((lo8 c &&& 255) <<< (0 : Int32)) ||| ((hi8 c &&& 255) <<< (8 : Int32))).toBitVec.toNat = c.toBitVec.toNat := by
    rw [Int32.toBitVec_or, Int32.toBitVec_shiftLeft, Int32.toBitVec_shiftLeft]
    have s0 : ((0 : Int32).toBitVec.smod 32) = 0#32 := by decide
    have s8 : ((8 : Int32).toBitVec.smod 32) = 8#32 := by decide
    rw [s0, s8, BitVec.toNat_or]
    simp only [BitVec.shiftLeft_eq', BitVec.toNat_shiftLeft, a1, a2]
    show (c.toBitVec.toNat % 256) <<< 0 % 2 ^ 32 ||| (c.toBitVec.toNat / 256) <<< 8 % 2 ^ 32 = _
    rw [Nat.shiftLeft_zero, Nat.mod_eq_of_lt (show c.toBitVec.toNat % 256 < 2 ^ 32 by omega), Nat.mod_eq_of_lt (show (c.toBitVec.toNat / 256) <<< 8 < 2 ^ 32 by rw [Nat.shiftLeft_eq]; omega), Nat.or_comm, ← Nat.shiftLeft_add_eq_or_of_lt (by omega), Nat.shiftLeft_eq]
    omega
  show BitVec.toNat (((((lo8 c &&& 255) <<< (0 : Int32)) ||| ((hi8 c &&& 255) <<< (8 : Int32))).toBitVec.setWidth 16).setWidth 32) = _
  rw [BitVec.toNat_setWidth, BitVec.toNat_setWidth, g]
  omega
end StrChars
namespace StrChars
open Jvm Sem ClassFile Op Lib Jvm.Stand Jvm.Free.XT Jvm.Free.ALB Jvm.Free.JM Jvm.Free
open Jvm.Lib.Cold (StaticIs)
/-- the array's cell V codes the n chars f 0 .. f (n - 1) by the coder cd, as the JDK does: coder 1 just where some char is above 255 -/
def Cod (cd : Int32) (n : Nat) (f : Nat → Int32) (V : Cell) : Prop := (cd = 0 ∧ V.slots.size = n ∧ ∀ j, j < n → V.slots[j]? = some (.int (lo8 (f j))) ∧ ¬ 255 < f j) ∨ (cd = 1 ∧ V.slots.size = 2 * n ∧ (∀ j, j < n → V.slots[2 * j]? = some (.int (lo8 (f j))) ∧ V.slots[2 * j + 1]? = some (.int (hi8 (f j)))) ∧ ∃ j, j < n ∧ 255 < f j)
/-- **x is a String of the n chars f 0 .. f (n - 1)**, Latin-1 or UTF-16; its array at t has the cell V -/
def Txt (x t : Addr) (V : Cell) (cd : Int32) (n : Nat) (f : Nat → Int32) (U : State) : Prop := Exact "java/lang/String" x U ∧ Has x "java/lang/String" "value" "[B" (.ref t) U ∧ Has x "java/lang/String" "coder" "B" (.int cd) U ∧ XT.Arr .byte t V U ∧ Cod cd n f V ∧ ∀ j, j < n → ¬ f j < 0 ∧ ¬ 65535 < f j
theorem Txt.mv {x t : Addr} {V : Cell} {cd : Int32} {n : Nat} {f : Nat → Int32} {U U' : State} (h : Txt x t V cd n f U) (hal : U.vm.Alike U'.vm) (hh : U'.heap = U.heap) : Txt x t V cd n f U' := ⟨h.1.mv hal hh, h.2.1.mv hal hh, h.2.2.1.mv hal hh, h.2.2.2.1.mv hal hh, h.2.2.2.2⟩
end StrChars
namespace StrChars.Road
open Jvm Sem ClassFile Op Lib Jvm.Stand Jvm.Free Jvm.Free.XT
open Jvm.Lib.Cold (StaticIs)
theorem consq {a : Array Value} {s : State} {c : Jvm.Cond} {L : List Jvm.Cond} (h0 : c.before a s = true) (h : ∀ w ∈ L, w.before a s = true) : ∀ w ∈ c :: L, w.before a s = true := fun w hw => (List.mem_cons.mp hw).elim (fun e => e ▸ h0) (h w)
/-- the bytes of the chars cs, low before high -/
def wideBytes : List Int32 → List Value
  | [] => []
  | c :: cs => .int (lo8 c) :: .int (hi8 c) :: wideBytes cs
theorem wide_lo (d : Value) : ∀ (cs : List Int32) (j : Nat), j < cs.length → (wideBytes cs).getD (2 * j) d = .int (lo8 (cs.getD j 0))
  | [], j, h => absurd h (Nat.not_lt_zero j)
  | c :: cs, 0, _ => rfl
  | c :: cs, j + 1, h => by
    have q := wide_lo d cs j (by simpa using h)
    rw [show 2 * (j + 1) = 2 * j + 1 + 1 from by omega]
    simpa [wideBytes] using q
theorem wide_hi (d : Value) : ∀ (cs : List Int32) (j : Nat), j < cs.length → (wideBytes cs).getD (2 * j + 1) d = .int (hi8 (cs.getD j 0))
  | [], j, h => absurd h (Nat.not_lt_zero j)
  | c :: cs, 0, _ => rfl
  | c :: cs, j + 1, h => by
    have q := wide_hi d cs j (by simpa using h)
    rw [show 2 * (j + 1) + 1 = 2 * j + 1 + 1 + 1 from by omega]
    simpa [wideBytes] using q
theorem low_at (d : Value) (cs : List Int32) (j : Nat) (h : j < cs.length) : (cs.map fun c => Value.int (lo8 c)).getD j d = .int (lo8 (cs.getD j 0)) := by
  simp [List.getD_eq_getElem?_getD, h]
/-- an array of N2 bytes vs codes the chars cs by the coder cd -/
def CodA (cs : List Int32) (cd N2 : Int32) (vs : List Value) : Prop := (cd = 0 ∧ N2 = Int32.ofNat cs.length ∧ vs = (cs.map fun c => Value.int (lo8 c)) ∧ ∀ c ∈ cs, ¬ 255 < c) ∨ (cd = 1 ∧ N2 = Int32.ofNat (2 * cs.length) ∧ vs = wideBytes cs ∧ ∃ c ∈ cs, 255 < c)
theorem CodA.cod {cs : List Int32} {cd N2 : Int32} {vs : List Value} {V : Cell} (h : CodA cs cd N2 vs) (hn : 2 * cs.length < 2 ^ 31) (hs : V.slots.size = N2.toNatClampNeg) (hv : RoadKit.Has V vs (.int 0)) : Cod cd cs.length (fun j => cs.getD j 0) V := by
  rcases h with ⟨rfl, rfl, rfl, h⟩ | ⟨rfl, rfl, rfl, c, hc, hw⟩
  · rw [n32 (by omega)] at hs
    exact Or.inl ⟨rfl, hs, fun j hj => ⟨by rw [hv j (by omega), low_at _ _ _ hj], by
      have e : cs.getD j 0 = cs[j] := by simp [List.getD_eq_getElem?_getD, hj]
      show ¬ 255 < cs.getD j 0
      rw [e]; exact h _ (List.getElem_mem _)⟩⟩
  · rw [n32 (by omega)] at hs
    obtain ⟨j, hj, rfl⟩ := List.getElem_of_mem hc
    exact Or.inr ⟨rfl, hs, fun j hj => ⟨by rw [hv _ (by omega), wide_lo _ _ _ hj], by rw [hv _ (by omega), wide_hi _ _ _ hj]⟩, j, hj, by
      have e : cs.getD j 0 = cs[j] := by simp [List.getD_eq_getElem?_getD, hj]
      show 255 < cs.getD j 0
      rw [e]; exact hw⟩
/-- an object of exactly java/lang/String, its two fields found: as the laws ask it -/
theorem strObj {Z U : State} {a0 : Array Value} {kI : Nat} (wi : (Jvm.Cond.instantiable ST kI).before a0 Z = true) (al : Z.vm.Alike U.vm) {x : Addr} {v0 c0 : Value} (E : RoadKit.Exa Z U.heap x ST) (V : RoadKit.Fld Z U.heap x ST "value" "[B" v0) (C : RoadKit.Fld Z U.heap x ST "coder" "B" c0) :
    ∃ (D : Cell) (fV fC : Field), Blank ST x D U ∧ Found ST "value" "[B" fV U ∧ Found ST "coder" "B" fC U ∧ D.slots[fV.slot]? = some v0 ∧ D.slots[fC.slot]? = some c0 ∧ RoadKit.slotOf Z ST "value" "[B" = fV.slot ∧ RoadKit.slotOf Z ST "coder" "B" = fC.slot := by
  obtain ⟨D, cfV, kV, iV, fV, hD, gV, stV, knV, obV, asV, slV⟩ := V
  obtain ⟨D', cfC, kC, iC, fC, hD', gC, stC, -, -, asC, slC⟩ := C
  cases hD.symm.trans hD'
  obtain ⟨D2, kD, e1, e2, e3, e4, e5⟩ := E
  cases hD.symm.trans e1
  obtain ⟨c2, k2, i1, i2, i3, -⟩ := Cond.instantiable_spec wi
  cases e2.symm.trans i1
  cases e3.symm.trans i2
  obtain ⟨kU, u1, u2⟩ := al.2.2 _ _ e3
  exact ⟨D, fV, fC, ⟨hD, ⟨knV, fun q hq => by rw [hq] at obV; cases obV⟩, by rw [al.findClass]; exact e2, kU, u1, by rw [u2]; exact i3, by rw [u2]; exact e5 i3⟩, ⟨SBG.found_only al ⟨cfV, kV, iV, gV⟩, stV⟩, ⟨SBG.found_only al ⟨cfC, kC, iC, gC⟩, stC⟩, slV, slC, by simp [RoadKit.slotOf, gV], by simp [RoadKit.slotOf, gC]⟩
theorem sta_is {Z U : State} (al : Z.vm.Alike U.vm) {C n d : String} {v : Value} (S : RoadKit.Sta Z U.heap C n d v) : StaticIs U C n d v := by
  obtain ⟨cfS, iS, kS, fS, st, cS, t1, t2, t3, t4, t5, t6, t7⟩ := S
  exact StaticIs.there (s := { Z with heap := U.heap }) ⟨cfS, iS, kS, fS, st, cS, t1, t2, t3, t4, t5, (fun q => by rw [q] at t6; cases t6), t7⟩ al rfl
end StrChars.Road
namespace StrChars
open Jvm Sem ClassFile Op Lib Jvm.Stand Jvm.Free.XT Jvm.Free.ALB Jvm.Free.JM Jvm.Free
open Jvm.Lib.Cold (StaticIs)
/-- what place i of a byte[]'s cell holds -/
def yv (A : Cell) (i : Nat) : Int32 := match A.slots[i]? with | some (.int x) => x | _ => 0
theorem yv_get {a : Addr} {A : Cell} {U : State} (h : XT.Arr .byte a A U) (ht : Typed .byte A) {i : Nat} (hi : i < A.slots.size) : A.slots[i]? = some (.int (yv A i)) := by
  have e := Array.getElem?_eq_getElem hi
  have f := ht i _ e
  unfold yv; rw [e]
  generalize A.slots[i] = v at f
  cases v <;> simp [fits] at f ⊢
/-- the two arrays are equal, place for place -/
def EqC (A B : Cell) : Prop := A.slots.size = B.slots.size ∧ ∀ i, i < A.slots.size → yv A i = yv B i
/-- a boolean that says whether p -/
def Says01 (q : Prop) (r : Option Value) (s u : State) : Prop := ∃ v : Int32, r = some (.int v) ∧ u.heap = s.heap ∧ ((v = 1 ∧ q) ∨ (v = 0 ∧ ¬ q))
theorem Says01.mv {q : Prop} : ∀ r (U U' V V' : State), U'.heap = U.heap → V.vm.Alike V'.vm → V'.heap = V.heap → Says01 q r U V → Says01 q r U' V' :=
  fun r U U' V V' h1 _ h2 ⟨v, a, b, c⟩ => ⟨v, a, by rw [h1, h2]; exact b, c⟩
namespace LEq
def yN : MethodName := ⟨"java/lang/StringLatin1", "equals", "([B[B)Z"⟩
abbrev yB : ByteArray := jdk_43_method_13_code
theorem d0 : decode yB 0 = .ok (.aload_n 0, 1) := by decide +kernel
theorem d1 : decode yB 1 = .ok (.arraylength, 1) := by decide +kernel
theorem d2 : decode yB 2 = .ok (.aload_n 1, 1) := by decide +kernel
theorem d3 : decode yB 3 = .ok (.arraylength, 1) := by decide +kernel
theorem d4 : decode yB 4 = .ok (.if_icmp (.ne) 30, 3) := by decide +kernel
theorem d7 : decode yB 7 = .ok (.iconst 0, 1) := by decide +kernel
theorem d8 : decode yB 8 = .ok (.istore_n 2, 1) := by decide +kernel
theorem d9 : decode yB 9 = .ok (.iload_n 2, 1) := by decide +kernel
theorem d10 : decode yB 10 = .ok (.aload_n 0, 1) := by decide +kernel
theorem d11 : decode yB 11 = .ok (.arraylength, 1) := by decide +kernel
theorem d12 : decode yB 12 = .ok (.if_icmp (.ge) 20, 3) := by decide +kernel
theorem d15 : decode yB 15 = .ok (.aload_n 0, 1) := by decide +kernel
theorem d16 : decode yB 16 = .ok (.iload_n 2, 1) := by decide +kernel
theorem d17 : decode yB 17 = .ok (.baload, 1) := by decide +kernel
theorem d18 : decode yB 18 = .ok (.aload_n 1, 1) := by decide +kernel
theorem d19 : decode yB 19 = .ok (.iload_n 2, 1) := by decide +kernel
theorem d20 : decode yB 20 = .ok (.baload, 1) := by decide +kernel
theorem d21 : decode yB 21 = .ok (.if_icmp (.eq) 5, 3) := by decide +kernel
theorem d24 : decode yB 24 = .ok (.iconst 0, 1) := by decide +kernel
theorem d25 : decode yB 25 = .ok (.ireturn, 1) := by decide +kernel
theorem d26 : decode yB 26 = .ok (.iinc 2 1, 3) := by decide +kernel
theorem d29 : decode yB 29 = .ok (.goto (-20), 3) := by decide +kernel
theorem d32 : decode yB 32 = .ok (.iconst 1, 1) := by decide +kernel
theorem d33 : decode yB 33 = .ok (.ireturn, 1) := by decide +kernel
theorem d34 : decode yB 34 = .ok (.iconst 0, 1) := by decide +kernel
theorem d35 : decode yB 35 = .ok (.ireturn, 1) := by decide +kernel
def site : List Cond := []
def tab : Cond := tabOf yN yB 3 (some .boolean) site
def P (a : Addr) (A : Cell) (b : Addr) (B : Cell) (args : Array Value) (s : State) : Prop := args = #[.ref a, .ref b] ∧ XT.Arr .byte a A s ∧ Typed .byte A ∧ XT.Arr .byte b B s ∧ Typed .byte B
/-- whether two byte[] are equal, place for place -/
theorem law (l : Launch) (a : Addr) (A : Cell) (b : Addr) (B : Cell) : Law l yN 2 2 0 0 yB 3 (some .boolean) site (P a A b B) (Says01 (EqC A B)) [] 0 0 := by
  refine Law.of_walk (plainFor_of_name (by decide +kernel)) (by decide +kernel) (by decide +kernel) (by decide) (fun _ _ h => by rw [h.1]; rfl) (fun _ U U' hal hh h => ⟨h.1, h.2.1.mv hal hh, h.2.2.1, h.2.2.2.1.mv hal hh, h.2.2.2.2⟩) (fun r U U' V V' h1 hal h2 h => Says01.mv r U U' V V' h1 hal h2 h) ?_
  intro p e s m args below meth c s₁ X0 hexec hbytes hml hret hlk hnm hown hh0 W hP
  obtain ⟨rfl, hA, tA, hB, tB⟩ := hP
  have a31 := hA.2.2.2
  have b31 := hB.2.2.2
  have hA0 := hA.mv X0.warmed.alike hh0
  have hB0 := hB.mv X0.warmed.alike hh0
  have c1 : Steps p.tables e below (s₁.setTop (entryFrame m #[.ref a, .ref b] 3)) (s₁.setTop (mkF m 0 #[.val (.ref a), .val (.ref b), .unset] [])) := entry rfl
  have c2 : Steps p.tables e below (s₁.setTop (entryFrame m #[.ref a, .ref b] 3)) (s₁.setTop (mkF m 4 #[.val (.ref a), .val (.ref b), .unset] [.int (Int32.ofNat B.slots.size), .int (Int32.ofNat A.slots.size)])) := c1.trans (by
    refine XS.aloadN X0.here hexec rfl (hb hbytes d0) rfl rfl ?_
    refine X0.alen hexec hA0 rfl rfl (hb hbytes d1) ?_
    refine XS.aloadN X0.here hexec rfl (hb hbytes d2) rfl rfl ?_
    refine X0.alen hexec hB0 rfl rfl (hb hbytes d3) ?_
    exact Steps.refl _)
  by_cases hs : A.slots.size = B.slots.size
  · have c3 : Steps p.tables e below (s₁.setTop (entryFrame m #[.ref a, .ref b] 3)) (s₁.setTop (mkF m 9 #[.val (.ref a), .val (.ref b), .val (.int 0)] [])) := c2.trans (by
      refine XS.icmpNo X0.here hexec rfl (hb hbytes d4) rfl (ii_ne_f (by rw [hs])) ?_
      refine iconstV X0.here hexec rfl 0 (hb hbytes d7) (by decide) ?_
      refine XS.istoreN X0.here hexec rfl (hb hbytes d8) rfl rfl ?_
      exact Steps.refl _)
    have loop : ∀ (r i : Nat), i + r = A.slots.size → (∀ j, j < i → yv A j = yv B j) → Steps p.tables e below (s₁.setTop (entryFrame m #[.ref a, .ref b] 3)) (s₁.setTop (mkF m 9 #[.val (.ref a), .val (.ref b), .val (.int (Int32.ofNat i))] [])) → ∃ (pc : Nat) (Ls : Array Slot) (v : Int32), (pc = 25 ∨ pc = 33) ∧ ((v = 1 ∧ EqC A B) ∨ (v = 0 ∧ ¬ EqC A B)) ∧ Steps p.tables e below (s₁.setTop (entryFrame m #[.ref a, .ref b] 3)) (s₁.setTop (mkF m pc Ls [.int v])) := by
      intro r
      induction r with
      | zero =>
        intro i hi he cl
        exact ⟨33, _, 1, Or.inr rfl, Or.inl ⟨rfl, hs, fun j hj => he j (by omega)⟩, cl.trans (by
          refine XS.iloadN X0.here hexec rfl (hb hbytes d9) rfl ?_
          refine XS.aloadN X0.here hexec rfl (hb hbytes d10) rfl rfl ?_
          refine X0.alen hexec hA0 rfl rfl (hb hbytes d11) ?_
          refine XS.icmpYes X0.here hexec rfl (pc0 := 12) rfl (hb hbytes d12) rfl (ii_ge_t (nlt32 (by omega) (by omega))) (by decide) rfl ?_
          refine iconstV X0.here hexec rfl 1 (hb hbytes d32) (by decide) ?_
          exact Steps.refl _)⟩
      | succ r ih =>
        intro i hi he cl
        have c4 : Steps p.tables e below (s₁.setTop (entryFrame m #[.ref a, .ref b] 3)) (s₁.setTop (mkF m 21 #[.val (.ref a), .val (.ref b), .val (.int (Int32.ofNat i))] [.int (yv B i), .int (yv A i)])) := cl.trans (by
          refine XS.iloadN X0.here hexec rfl (hb hbytes d9) rfl ?_
          refine XS.aloadN X0.here hexec rfl (hb hbytes d10) rfl rfl ?_
          refine X0.alen hexec hA0 rfl rfl (hb hbytes d11) ?_
          refine XS.icmpNo X0.here hexec rfl (hb hbytes d12) rfl (ii_ge_f (lt32 (by omega) (by omega))) ?_
          refine XS.aloadN X0.here hexec rfl (hb hbytes d15) rfl rfl ?_
          refine XS.iloadN X0.here hexec rfl (hb hbytes d16) rfl ?_
          refine X0.aget hexec hA0 rfl (yv_get hA tA (i := i) (by omega)) rfl rfl (hb hbytes d17) ?_
          refine XS.aloadN X0.here hexec rfl (hb hbytes d18) rfl rfl ?_
          refine XS.iloadN X0.here hexec rfl (hb hbytes d19) rfl ?_
          refine X0.aget hexec hB0 rfl (yv_get hB tB (i := i) (by omega)) rfl rfl (hb hbytes d20) ?_
          exact Steps.refl _)
        by_cases hv : yv A i = yv B i
        · have c5 : Steps p.tables e below (s₁.setTop (entryFrame m #[.ref a, .ref b] 3)) (s₁.setTop (mkF m 9 #[.val (.ref a), .val (.ref b), .val (.int (Int32.ofNat i + 1))] [])) := c4.trans (by
            refine XS.icmpYes X0.here hexec rfl (pc0 := 21) rfl (hb hbytes d21) rfl (ii_eq_t hv) (by decide) rfl ?_
            refine iincV X0.here hexec rfl 1 (hb hbytes d26) (by decide) rfl rfl ?_
            refine XS.goto X0.here hexec rfl (pc0 := 29) rfl (hb hbytes d29) (by decide) rfl ?_
            exact Steps.refl _)
          rw [succ32] at c5
          exact ih (i + 1) (by omega) (fun j hj => by
            by_cases e : j = i
            · rw [e]; exact hv
            · exact he j (by omega)) c5
        · exact ⟨25, _, 0, Or.inl rfl, Or.inr ⟨rfl, fun q => hv (q.2 i (by omega))⟩, c4.trans (by
            refine XS.icmpNo X0.here hexec rfl (hb hbytes d21) rfl (ii_eq_f hv) ?_
            refine iconstV X0.here hexec rfl 0 (hb hbytes d24) (by decide) ?_
            exact Steps.refl _)⟩
    obtain ⟨pc, Ls, v, hpc, hv, cz⟩ := loop A.slots.size 0 (by omega) (fun j hj => absurd hj (Nat.not_lt_zero j)) c3
    have nv : narrow .boolean (.int v) = .int v := by rcases hv with ⟨rfl, -⟩ | ⟨rfl, -⟩ <;> rfl
    rcases hpc with rfl | rfl
    · exact ⟨s₁, some (.int v), _, _, _, X0, rfl, rfl, rfl, (fun h => by cases h), ⟨v, rfl, hh0, hv⟩, fun fs hl => cz.trans (X0.ireturnOut hexec hret nv (Or.inr (Or.inl rfl)) (hb hbytes d25) hl)⟩
    · exact ⟨s₁, some (.int v), _, _, _, X0, rfl, rfl, rfl, (fun h => by cases h), ⟨v, rfl, hh0, hv⟩, fun fs hl => cz.trans (X0.ireturnOut hexec hret nv (Or.inr (Or.inl rfl)) (hb hbytes d33) hl)⟩
  · have c3 : Steps p.tables e below (s₁.setTop (entryFrame m #[.ref a, .ref b] 3)) (s₁.setTop (mkF m 35 #[.val (.ref a), .val (.ref b), .unset] [.int 0])) := c2.trans (by
      refine XS.icmpYes X0.here hexec rfl (pc0 := 4) rfl (hb hbytes d4) rfl (ii_ne_t (ne32 a31 b31 hs)) (by decide) rfl ?_
      refine iconstV X0.here hexec rfl 0 (hb hbytes d34) (by decide) ?_
      exact Steps.refl _)
    exact ⟨s₁, some (.int 0), _, _, _, X0, rfl, rfl, rfl, (fun h => by cases h), ⟨0, rfl, hh0, Or.inr ⟨rfl, fun q => hs q.1⟩⟩, fun fs hl => c3.trans (X0.ireturnOut hexec hret rfl (Or.inr (Or.inl rfl)) (hb hbytes d35) hl)⟩
end LEq
theorem Cod.ty {cd : Int32} {n : Nat} {f : Nat → Int32} {V : Cell} (h : Cod cd n f V) : Typed .byte V := fun i v hv => by
  have hi : i < V.slots.size := (Array.getElem?_eq_some_iff.mp hv).1
  rcases h with ⟨-, k1, k2⟩ | ⟨-, k1, k2, -⟩
  · rw [(k2 i (by omega)).1] at hv; cases hv; exact fits_lo8 _
  · rcases Nat.mod_two_eq_zero_or_one i with e | e
    · obtain ⟨j, rfl⟩ : ∃ j, i = 2 * j := ⟨i / 2, by omega⟩
      rw [(k2 j (by omega)).1] at hv; cases hv; exact fits_lo8 _
    · obtain ⟨j, rfl⟩ : ∃ j, i = 2 * j + 1 := ⟨i / 2, by omega⟩
      rw [(k2 j (by omega)).2] at hv; cases hv; exact fits_lo8 _
/-- the same text -/
def SameT (n : Nat) (f : Nat → Int32) (k : Nat) (g : Nat → Int32) : Prop := n = k ∧ ∀ j, j < n → f j = g j
theorem lo8_inj {x y : Int32} (h0 : ¬ x < 0) (h1 : ¬ 255 < x) (k0 : ¬ y < 0) (k1 : ¬ 255 < y) (h : lo8 x = lo8 y) : x = y := by
  rw [← lo8_mask h0 h1, ← lo8_mask k0 k1, h]
/-- arrays coded by one coder are equal just where the texts are -/
theorem Cod.eqv {cd : Int32} {n k : Nat} {f g : Nat → Int32} {V V' : Cell} (h : Cod cd n f V) (h' : Cod cd k g V') (hf : ∀ j, j < n → ¬ f j < 0 ∧ ¬ 65535 < f j) (hg : ∀ j, j < k → ¬ g j < 0 ∧ ¬ 65535 < g j) : EqC V V' ↔ SameT n f k g := by
  have yvv : ∀ {W : Cell} {i : Nat} {x : Int32}, W.slots[i]? = some (.int x) → yv W i = x := fun q => by unfold yv; rw [q]
  rcases h with ⟨rfl, k1, k2⟩ | ⟨rfl, k1, k2, -⟩
  · rcases h' with ⟨-, m1, m2⟩ | ⟨e, -⟩
    · constructor
      · rintro ⟨e1, e2⟩
        refine ⟨by omega, fun j hj => ?_⟩
        have q := e2 j (by omega)
        rw [yvv (k2 j hj).1, yvv (m2 j (by omega)).1] at q
        exact lo8_inj (hf j hj).1 (k2 j hj).2 (hg j (by omega)).1 (m2 j (by omega)).2 q
      · rintro ⟨rfl, e2⟩
        refine ⟨by omega, fun j hj => ?_⟩
        rw [yvv (k2 j (by omega)).1, yvv (m2 j (by omega)).1, e2 j (by omega)]
    · exact absurd e (by decide)
  · rcases h' with ⟨e, -⟩ | ⟨-, m1, m2, -⟩
    · exact absurd e (by decide)
    · constructor
      · rintro ⟨e1, e2⟩
        refine ⟨by omega, fun j hj => ?_⟩
        have q1 := e2 (2 * j) (by omega)
        have q2 := e2 (2 * j + 1) (by omega)
        rw [yvv (k2 j hj).1, yvv (m2 j (by omega)).1] at q1
        rw [yvv (k2 j hj).2, yvv (m2 j (by omega)).2] at q2
        rw [← pair_says (hf j hj).1 (hf j hj).2, ← pair_says (hg j (by omega)).1 (hg j (by omega)).2, q1, q2]
      · rintro ⟨rfl, e2⟩
        refine ⟨by omega, fun i hi => ?_⟩
        rcases Nat.mod_two_eq_zero_or_one i with e | e
        · obtain ⟨j, rfl⟩ : ∃ j, i = 2 * j := ⟨i / 2, by omega⟩
          rw [yvv (k2 j (by omega)).1, yvv (m2 j (by omega)).1, e2 j (by omega)]
        · obtain ⟨j, rfl⟩ : ∃ j, i = 2 * j + 1 := ⟨i / 2, by omega⟩
          rw [yvv (k2 j (by omega)).2, yvv (m2 j (by omega)).2, e2 j (by omega)]
/-- two codings differ: so do the texts -/
theorem Cod.dif {cd cd' : Int32} {n k : Nat} {f g : Nat → Int32} {V V' : Cell} (h : Cod cd n f V) (h' : Cod cd' k g V') (hne : ¬ cd = cd') : ¬ SameT n f k g := by
  rintro ⟨rfl, e⟩
  rcases h with ⟨rfl, -, k2⟩ | ⟨rfl, -, -, j, hj, hw⟩
  · rcases h' with ⟨rfl, -⟩ | ⟨-, -, -, j, hj, hw⟩
    · exact hne rfl
    · exact (k2 j hj).2 (by rw [e j hj]; exact hw)
  · rcases h' with ⟨-, -, m2⟩ | ⟨rfl, -⟩
    · exact (m2 j hj).2 (by rw [← e j hj]; exact hw)
    · exact hne rfl
/-- an object of exactly C is an instance of C -/
theorem cinst {p : Program} {l : Launch} {e : Env} {R : Room} {s : State} {m : MethodId} {args : Array Value} {below : List Frame} {meth : Method} {c : Code} {T : State} {locs : List Loc} {cells slots : Nat} (X : Stand p l e R s m args below meth c T locs cells slots) (hexec : p.tables.exec = Jvm.exec) {own C : String} {index : Nat} (hown : s.vm.findClass own = some m.cls) (hlink : (Cond.classLink own index C).before args s = true) {a : Addr} (hE : Exact C a T)
    {g : JFrame} (hg : g.method = m) {rest : List Value} (hstack : g.stack = .ref a :: rest) (hdg : decode c.code g.pc = .ok (.instanceof index, 3)) :
    ∃ T', Stand p l e R s m args below meth c T' locs cells slots ∧ T'.heap = T.heap ∧ ∀ target, Steps p.tables e below (T'.setTop { g with pc := g.pc + 3, stack := .int 1 :: rest }) target → Steps p.tables e below (T.setTop g) target := by
  obtain ⟨cB, h1, D, h2, h3, h4⟩ := hE
  have h1' : s.vm.findClass C = some cB := by rw [← X.warmed.alike.findClass]; exact h1
  obtain ⟨vm', X', st⟩ := X.instanceofYes hexec hown hlink h2 h4 h1' (by rw [h3]; exact Jvm.Free.SB.assignable_self _ _) hg hstack hdg
  exact ⟨_, X', rfl, st⟩
theorem cself {p : Program} {l : Launch} {e : Env} {R : Room} {s : State} {m : MethodId} {args : Array Value} {below : List Frame} {meth : Method} {c : Code} {T : State} {locs : List Loc} {cells slots : Nat} (X : Stand p l e R s m args below meth c T locs cells slots) (hexec : p.tables.exec = Jvm.exec) {own C : String} {index : Nat} (hown : s.vm.findClass own = some m.cls) (hlink : (Cond.classLink own index C).before args s = true) {a : Addr} (hE : Exact C a T)
    {g : JFrame} (hg : g.method = m) {rest : List Value} (hstack : g.stack = .ref a :: rest) (hdg : decode c.code g.pc = .ok (.checkcast index, 3)) :
    ∃ T', Stand p l e R s m args below meth c T' locs cells slots ∧ T'.heap = T.heap ∧ ∀ target, Steps p.tables e below (T'.setTop { g with pc := g.pc + 3, stack := .ref a :: rest }) target → Steps p.tables e below (T.setTop g) target := by
  obtain ⟨cB, h1, D, h2, h3, h4⟩ := hE
  have h1' : s.vm.findClass C = some cB := by rw [← X.warmed.alike.findClass]; exact h1
  obtain ⟨vm', X', st⟩ := X.checkcastYes hexec hown hlink h2 h4 h1' (by rw [h3]; exact Jvm.Free.SB.assignable_self _ _) hg hstack hdg
  exact ⟨_, X', rfl, fun t h => st t (by rw [← hstack] at h; exact h)⟩
namespace SEq
def yN : MethodName := ⟨"java/lang/String", "equals", "(Ljava/lang/Object;)Z"⟩
abbrev yB : ByteArray := jdk_42_method_66_code
theorem d0 : decode yB 0 = .ok (.aload_n 0, 1) := by decide +kernel
theorem d1 : decode yB 1 = .ok (.aload_n 1, 1) := by decide +kernel
theorem d2 : decode yB 2 = .ok (.if_acmp (.ne) 5, 3) := by decide +kernel
theorem d5 : decode yB 5 = .ok (.iconst 1, 1) := by decide +kernel
theorem d6 : decode yB 6 = .ok (.ireturn, 1) := by decide +kernel
theorem d7 : decode yB 7 = .ok (.aload_n 1, 1) := by decide +kernel
theorem d8 : decode yB 8 = .ok (.instanceof 10, 3) := by decide +kernel
theorem d11 : decode yB 11 = .ok (.ifCond (.eq) 43, 3) := by decide +kernel
theorem d14 : decode yB 14 = .ok (.aload_n 1, 1) := by decide +kernel
theorem d15 : decode yB 15 = .ok (.checkcast 10, 3) := by decide +kernel
theorem d18 : decode yB 18 = .ok (.astore_n 2, 1) := by decide +kernel
theorem d19 : decode yB 19 = .ok (.getstatic 38, 3) := by decide +kernel
theorem d22 : decode yB 22 = .ok (.ifCond (.eq) 14, 3) := by decide +kernel
theorem d25 : decode yB 25 = .ok (.aload_n 0, 1) := by decide +kernel
theorem d26 : decode yB 26 = .ok (.getfield 15, 3) := by decide +kernel
theorem d29 : decode yB 29 = .ok (.aload_n 2, 1) := by decide +kernel
theorem d30 : decode yB 30 = .ok (.getfield 15, 3) := by decide +kernel
theorem d33 : decode yB 33 = .ok (.if_icmp (.ne) 21, 3) := by decide +kernel
theorem d36 : decode yB 36 = .ok (.aload_n 0, 1) := by decide +kernel
theorem d37 : decode yB 37 = .ok (.getfield 9, 3) := by decide +kernel
theorem d40 : decode yB 40 = .ok (.aload_n 2, 1) := by decide +kernel
theorem d41 : decode yB 41 = .ok (.getfield 9, 3) := by decide +kernel
theorem d44 : decode yB 44 = .ok (.invokestatic 541, 3) := by decide +kernel
theorem d47 : decode yB 47 = .ok (.ifCond (.eq) 7, 3) := by decide +kernel
theorem d50 : decode yB 50 = .ok (.iconst 1, 1) := by decide +kernel
theorem d51 : decode yB 51 = .ok (.goto 4, 3) := by decide +kernel
theorem d54 : decode yB 54 = .ok (.iconst 0, 1) := by decide +kernel
theorem d55 : decode yB 55 = .ok (.ireturn, 1) := by decide +kernel
def site : List Cond := [.classLink "java/lang/String" 10 "java/lang/String", .fieldLink "java/lang/String" 38 "java/lang/String" "COMPACT_STRINGS" "Z", .fieldLink "java/lang/String" 15 "java/lang/String" "coder" "B", .fieldLink "java/lang/String" 9 "java/lang/String" "value" "[B", LEq.tab] ++ staticW "java/lang/String" 541 LEq.yN
def tab : Cond := tabOf yN yB 3 (some .boolean) site
def P (x t : Addr) (V : Cell) (cd : Int32) (n : Nat) (f : Nat → Int32) (y t' : Addr) (V' : Cell) (cd' : Int32) (k : Nat) (g : Nat → Int32) (z : Int32) (args : Array Value) (s : State) : Prop := args = #[.ref x, .ref y] ∧ Txt x t V cd n f s ∧ Txt y t' V' cd' k g s ∧ StaticIs s "java/lang/String" "COMPACT_STRINGS" "Z" (.int z) ∧ ¬ z = 0
/-- equals(Object) of two Strings: whether the texts are the same -/
theorem law (l : Launch) (x t : Addr) (V : Cell) (cd : Int32) (n : Nat) (f : Nat → Int32) (y t' : Addr) (V' : Cell) (cd' : Int32) (k : Nat) (g : Nat → Int32) (z : Int32) : Law l yN 2 1 1 14 yB 3 (some .boolean) site (P x t V cd n f y t' V' cd' k g z) (Says01 (SameT n f k g)) [] 0 0 := by
  refine Law.of_walk (plainFor_of_name (by decide +kernel)) (by decide +kernel) (by decide +kernel) (by decide) (fun _ _ h => by rw [h.1]; rfl) (fun _ U U' hal hh h => ⟨h.1, h.2.1.mv hal hh, h.2.2.1.mv hal hh, h.2.2.2.1.there hal hh, h.2.2.2.2⟩) (fun r U U' V V' h1 hal h2 h => Says01.mv r U U' V V' h1 hal h2 h) ?_
  intro p e s m args below meth c s₁ X0 hexec hbytes hml hret hlk hnm hown hh0 W hP
  obtain ⟨rfl, hx, hy, s1, hz⟩ := hP
  have c1 : Steps p.tables e below (s₁.setTop (entryFrame m #[.ref x, .ref y] 3)) (s₁.setTop (mkF m 2 #[.val (.ref x), .val (.ref y), .unset] [.ref y, .ref x])) := Steps.trans (entry rfl) (by
    show Steps p.tables e below (s₁.setTop (mkF m 0 #[.val (.ref x), .val (.ref y), .unset] [])) _
    refine XS.aloadN X0.here hexec rfl (hb hbytes d0) rfl rfl ?_
    refine XS.aloadN X0.here hexec rfl (hb hbytes d1) rfl rfl ?_
    exact Steps.refl _)
  by_cases hxy : x = y
  · have c2 : Steps p.tables e below (s₁.setTop (entryFrame m #[.ref x, .ref y] 3)) (s₁.setTop (mkF m 6 #[.val (.ref x), .val (.ref y), .unset] [.int 1])) := c1.trans (by
      refine acmpNo X0.here hexec rfl (hb hbytes d2) rfl rfl rfl (by simp [acmp, hxy]) ?_
      refine iconstV X0.here hexec rfl 1 (hb hbytes d5) (by decide) ?_
      exact Steps.refl _)
    subst hxy
    have ec : cd = cd' := by
      obtain ⟨D, fd, a1, a2, a3⟩ := hx.2.2.1
      obtain ⟨D', fd', b1, b2, b3⟩ := hy.2.2.1
      cases a1.symm.trans b1
      obtain ⟨q1, q2, q3, q4⟩ := a2.1
      obtain ⟨r1, r2, r3, r4⟩ := b2.1
      cases q4.symm.trans r4
      cases a3.symm.trans b3; rfl
    have et : t = t' := by
      obtain ⟨D, fd, a1, a2, a3⟩ := hx.2.1
      obtain ⟨D', fd', b1, b2, b3⟩ := hy.2.1
      cases a1.symm.trans b1
      obtain ⟨q1, q2, q3, q4⟩ := a2.1
      obtain ⟨r1, r2, r3, r4⟩ := b2.1
      cases q4.symm.trans r4
      cases a3.symm.trans b3; rfl
    subst ec et
    have ev : V = V' := by cases hx.2.2.2.1.1.symm.trans hy.2.2.2.1.1; rfl
    subst ev
    have hs : SameT n f k g := (Cod.eqv hx.2.2.2.2.1 hy.2.2.2.2.1 hx.2.2.2.2.2 hy.2.2.2.2.2).mp ⟨rfl, fun _ _ => rfl⟩
    exact ⟨s₁, some (.int 1), _, _, _, X0, rfl, rfl, rfl, (fun h => by cases h), ⟨1, rfl, hh0, Or.inl ⟨rfl, hs⟩⟩, fun fs hl => c2.trans (X0.ireturnOut hexec hret rfl (Or.inr (Or.inl rfl)) (hb hbytes d6) hl)⟩
  · have c2 : Steps p.tables e below (s₁.setTop (entryFrame m #[.ref x, .ref y] 3)) (s₁.setTop (mkF m 8 #[.val (.ref x), .val (.ref y), .unset] [.ref y])) := c1.trans (by
      refine acmpYes X0.here hexec rfl (pc0 := 2) rfl (hb hbytes d2) rfl rfl rfl (by simp [acmp, hxy]) (by decide) rfl ?_
      refine XS.aloadN X0.here hexec rfl (hb hbytes d7) rfl rfl ?_
      exact Steps.refl _)
    obtain ⟨T3, X3, q3, st3⟩ := cinst X0 hexec hown (wk W (.classLink "java/lang/String" 10 "java/lang/String")) (hy.mv X0.warmed.alike hh0).1 (g := (mkF m 8 #[.val (.ref x), .val (.ref y), .unset] [.ref y])) rfl (rest := []) rfl (hb hbytes d8)
    have hh3 := q3.trans hh0
    have c4 : Steps p.tables e below (s₁.setTop (entryFrame m #[.ref x, .ref y] 3)) (T3.setTop (mkF m 15 #[.val (.ref x), .val (.ref y), .unset] [.ref y])) := (c2.trans (st3 _ (Steps.refl _))).trans (by
      refine XS.ifNo X3.here hexec rfl (hb hbytes d11) rfl (i0_eq_f (by decide)) ?_
      refine XS.aloadN X3.here hexec rfl (hb hbytes d14) rfl rfl ?_
      exact Steps.refl _)
    obtain ⟨T5, X5, q5, st5⟩ := cself X3 hexec hown (wk W (.classLink "java/lang/String" 10 "java/lang/String")) (hy.mv X3.warmed.alike hh3).1 (g := (mkF m 15 #[.val (.ref x), .val (.ref y), .unset] [.ref y])) rfl (rest := []) rfl (hb hbytes d15)
    have hh5 := q5.trans hh3
    have c6 : Steps p.tables e below (s₁.setTop (entryFrame m #[.ref x, .ref y] 3)) (T5.setTop (mkF m 19 #[.val (.ref x), .val (.ref y), .val (.ref y)] [])) := (c4.trans (st5 _ (Steps.refl _))).trans (by
      refine XS.astoreN X5.here hexec rfl (hb hbytes d18) rfl rfl rfl ?_
      exact Steps.refl _)
    obtain ⟨T7, X7, q7, st7⟩ := X5.sget hexec hown (wk W (.fieldLink "java/lang/String" 38 "java/lang/String" "COMPACT_STRINGS" "Z")) s1 (fun _ _ h => by rw [hh5]; exact h) (g := (mkF m 19 #[.val (.ref x), .val (.ref y), .val (.ref y)] [])) rfl (hb hbytes d19)
    have hh7 := q7.trans hh5
    have c8 : Steps p.tables e below (s₁.setTop (entryFrame m #[.ref x, .ref y] 3)) (T7.setTop (mkF m 26 #[.val (.ref x), .val (.ref y), .val (.ref y)] [.ref x])) := (c6.trans (st7 _ (Steps.refl _))).trans (by
      refine XS.ifNo X7.here hexec rfl (hb hbytes d22) rfl (i0_eq_f hz) ?_
      refine XS.aloadN X7.here hexec rfl (hb hbytes d25) rfl rfl ?_
      exact Steps.refl _)
    obtain ⟨T9, X9, q9, st9⟩ := X7.hget hexec hown (wk W (.fieldLink "java/lang/String" 15 "java/lang/String" "coder" "B")) (hx.mv X7.warmed.alike hh7).2.2.1 (g := (mkF m 26 #[.val (.ref x), .val (.ref y), .val (.ref y)] [.ref x])) rfl (rest := []) rfl (hb hbytes d26)
    have hh9 := q9.trans hh7
    have c10 : Steps p.tables e below (s₁.setTop (entryFrame m #[.ref x, .ref y] 3)) (T9.setTop (mkF m 30 #[.val (.ref x), .val (.ref y), .val (.ref y)] [.ref y, .int cd])) := (c8.trans (st9 _ (Steps.refl _))).trans (by
      refine XS.aloadN X9.here hexec rfl (hb hbytes d29) rfl rfl ?_
      exact Steps.refl _)
    obtain ⟨T11, X11, q11, st11⟩ := X9.hget hexec hown (wk W (.fieldLink "java/lang/String" 15 "java/lang/String" "coder" "B")) (hy.mv X9.warmed.alike hh9).2.2.1 (g := (mkF m 30 #[.val (.ref x), .val (.ref y), .val (.ref y)] [.ref y, .int cd])) rfl (rest := [.int cd]) rfl (hb hbytes d30)
    have hh11 := q11.trans hh9
    have c12 : Steps p.tables e below (s₁.setTop (entryFrame m #[.ref x, .ref y] 3)) (T11.setTop (mkF m 33 #[.val (.ref x), .val (.ref y), .val (.ref y)] [.int cd', .int cd])) := c10.trans (st11 _ (Steps.refl _))
    by_cases hcd : cd = cd'
    · subst hcd
      have c13 : Steps p.tables e below (s₁.setTop (entryFrame m #[.ref x, .ref y] 3)) (T11.setTop (mkF m 37 #[.val (.ref x), .val (.ref y), .val (.ref y)] [.ref x])) := c12.trans (by
        refine XS.icmpNo X11.here hexec rfl (hb hbytes d33) rfl (ii_ne_f rfl) ?_
        refine XS.aloadN X11.here hexec rfl (hb hbytes d36) rfl rfl ?_
        exact Steps.refl _)
      obtain ⟨T14, X14, q14, st14⟩ := X11.hget hexec hown (wk W (.fieldLink "java/lang/String" 9 "java/lang/String" "value" "[B")) (hx.mv X11.warmed.alike hh11).2.1 (g := (mkF m 37 #[.val (.ref x), .val (.ref y), .val (.ref y)] [.ref x])) rfl (rest := []) rfl (hb hbytes d37)
      have hh14 := q14.trans hh11
      have c15 : Steps p.tables e below (s₁.setTop (entryFrame m #[.ref x, .ref y] 3)) (T14.setTop (mkF m 41 #[.val (.ref x), .val (.ref y), .val (.ref y)] [.ref y, .ref t])) := (c13.trans (st14 _ (Steps.refl _))).trans (by
        refine XS.aloadN X14.here hexec rfl (hb hbytes d40) rfl rfl ?_
        exact Steps.refl _)
      obtain ⟨T16, X16, q16, st16⟩ := X14.hget hexec hown (wk W (.fieldLink "java/lang/String" 9 "java/lang/String" "value" "[B")) (hy.mv X14.warmed.alike hh14).2.1 (g := (mkF m 41 #[.val (.ref x), .val (.ref y), .val (.ref y)] [.ref y, .ref t])) rfl (rest := [.ref t]) rfl (hb hbytes d41)
      have hh16 := q16.trans hh14
      have c17 : Steps p.tables e below (s₁.setTop (entryFrame m #[.ref x, .ref y] 3)) (T16.setTop (mkF m 44 #[.val (.ref x), .val (.ref y), .val (.ref y)] [.ref t', .ref t])) := c15.trans (st16 _ (Steps.refl _))
      obtain ⟨v18, T18, X18, E18, g18⟩ := X16.callS hexec (LEq.law l t V t' V') hown (wks W (staticW "java/lang/String" 541 LEq.yN)) (wk W LEq.tab) (W := 0) (Nat.le_of_ble_eq_true rfl) (Nat.le_of_ble_eq_true rfl) (Nat.le_refl _) (Nat.le_refl _) (g := (mkF m 44 #[.val (.ref x), .val (.ref y), .val (.ref y)] [.ref t', .ref t])) rfl (by rw [hml]; rfl) c17 (argsL := [.ref t, .ref t']) (rest := []) rfl rfl (by show 2 * 0 + 0 ≤ _; decide) (hb hbytes d44) (⟨rfl, hx.2.2.2.1.mv X16.warmed.alike hh16, hx.2.2.2.2.1.ty, hy.2.2.2.1.mv X16.warmed.alike hh16, hy.2.2.2.2.1.ty⟩)
      obtain ⟨v, rfl, q18, hv⟩ := E18
      have iff := Cod.eqv hx.2.2.2.2.1 hy.2.2.2.2.1 hx.2.2.2.2.2 hy.2.2.2.2.2
      rcases hv with ⟨rfl, he⟩ | ⟨rfl, he⟩
      · have c19 : Steps p.tables e below (s₁.setTop (entryFrame m #[.ref x, .ref y] 3)) (T18.setTop (mkF m 55 #[.val (.ref x), .val (.ref y), .val (.ref y)] [.int 1])) := Steps.trans g18 (by
          refine XS.ifNo X18.here hexec rfl (hb hbytes d47) rfl (i0_eq_f (by decide)) ?_
          refine iconstV X18.here hexec rfl 1 (hb hbytes d50) (by decide) ?_
          refine XS.goto X18.here hexec rfl (pc0 := 51) rfl (hb hbytes d51) (by decide) rfl ?_
          exact Steps.refl _)
        exact ⟨T18, some (.int 1), _, _, _, X18, rfl, rfl, rfl, (fun h => by cases h), ⟨1, rfl, q18.trans hh16, Or.inl ⟨rfl, iff.mp he⟩⟩, fun fs hl => c19.trans (X18.ireturnOut hexec hret rfl (Or.inr (Or.inl rfl)) (hb hbytes d55) hl)⟩
      · have c19 : Steps p.tables e below (s₁.setTop (entryFrame m #[.ref x, .ref y] 3)) (T18.setTop (mkF m 55 #[.val (.ref x), .val (.ref y), .val (.ref y)] [.int 0])) := Steps.trans g18 (by
          refine XS.ifYes X18.here hexec rfl (pc0 := 47) rfl (hb hbytes d47) rfl (i0_eq_t rfl) (by decide) rfl ?_
          refine iconstV X18.here hexec rfl 0 (hb hbytes d54) (by decide) ?_
          exact Steps.refl _)
        exact ⟨T18, some (.int 0), _, _, _, X18, rfl, rfl, rfl, (fun h => by cases h), ⟨0, rfl, q18.trans hh16, Or.inr ⟨rfl, fun q => he (iff.mpr q)⟩⟩, fun fs hl => c19.trans (X18.ireturnOut hexec hret rfl (Or.inr (Or.inl rfl)) (hb hbytes d55) hl)⟩
    · have c13 : Steps p.tables e below (s₁.setTop (entryFrame m #[.ref x, .ref y] 3)) (T11.setTop (mkF m 55 #[.val (.ref x), .val (.ref y), .val (.ref y)] [.int 0])) := c12.trans (by
        refine XS.icmpYes X11.here hexec rfl (pc0 := 33) rfl (hb hbytes d33) rfl (ii_ne_t hcd) (by decide) rfl ?_
        refine iconstV X11.here hexec rfl 0 (hb hbytes d54) (by decide) ?_
        exact Steps.refl _)
      exact ⟨T11, some (.int 0), _, _, _, X11, rfl, rfl, rfl, (fun h => by cases h), ⟨0, rfl, hh11, Or.inr ⟨rfl, Cod.dif hx.2.2.2.2.1 hy.2.2.2.2.1 hcd⟩⟩, fun fs hl => c13.trans (X11.ireturnOut hexec hret rfl (Or.inr (Or.inl rfl)) (hb hbytes d55) hl)⟩
theorem pays {l : Launch} {R : Room} {p : Program} {e : Env} {below : List Frame} {s : State} {sargs : Array Value} {len W : Nat} (x t : Addr) (V : Cell) (cd : Int32) (n : Nat) (f : Nat → Int32) (y t' : Addr) (V' : Cell) (cd' : Int32) (k : Nat) (g : Nat → Int32) (z : Int32) (htab : tab.before sargs s = true) (hfr : 2 ≤ R.frames) (hlo : W + 28 ≤ R.locals) :
    Back l R p e below s sargs yN len W (fun A₁ a₁ => A₁.cells + 0 ≤ R.cells ∧ A₁.slots + 0 ≤ R.slots ∧ P x t V cd n f y t' V' cd' k g z a₁ A₁.U) (fun A₁ _ v₁ B₁ => Says01 (SameT n f k g) v₁ A₁.U B₁.U ∧ B₁.locs = A₁.locs ++ [] ∧ B₁.cells = A₁.cells + 0 ∧ B₁.slots = A₁.slots + 0) :=
  (law l x t V cd n f y t' V' cd' k g z).pays htab hfr (by omega)
end SEq
end StrChars
namespace StrChars.Road
open Jvm Sem ClassFile Op Lib Jvm.Stand Jvm.Free Jvm.Free.XT
open Jvm.Lib.Cold (StaticIs)
/-- the words of String.equals(Object) -/
abbrev wordsEq : List Jvm.Cond := [.code SEq.yN SEq.yB 3 (some .boolean), .initialized ST, .classLink ST 10 ST, .fieldLink ST 38 ST "COMPACT_STRINGS" "Z", .fieldLink ST 15 ST "coder" "B", .fieldLink ST 9 ST "value" "[B", .methodLink ST 541 LEq.yN, .static LEq.yN, .code LEq.yN LEq.yB 3 (some .boolean), .initialized "java/lang/StringLatin1"]
theorem tabEq_of {a : Array Value} {s : State} (h : ∀ w ∈ wordsEq, w.before a s = true) : SEq.tab.before a s = true := by
  have hl : LEq.tab.before a s = true := unparts (wk h (.code LEq.yN LEq.yB 3 (some .boolean))) (wks h (.initialized LEq.yN.cls :: LEq.site))
  have q := consq hl h
  exact unparts (wk q (.code SEq.yN SEq.yB 3 (some .boolean))) (wks q (.initialized SEq.yN.cls :: SEq.site))
theorem movedEq {Z s : State} {a0 args : Array Value} (hZ : Z.Warmed39 s.vm) (hw : ∀ d ∈ wordsEq, d.before a0 Z = true) : ∀ d ∈ wordsEq, d.before args s = true := fun d hd => by
  have t : ∀ d ∈ wordsEq, (d.onTables && d.keepsFace) = true := by decide +kernel
  exact RoadKit.mv hZ (hw d hd) (t d hd)
/-- the road's facts of a String, as the laws ask it -/
theorem txt_of {Z U : State} {a0 : Array Value} {kI : Nat} (wi : (Jvm.Cond.instantiable ST kI).before a0 Z = true) (al : Z.vm.Alike U.vm) {x t : Addr} {kb : ClassId} {cs : List Int32} {cd N2 : Int32} {vs : List Value} (E : RoadKit.Exa Z U.heap x ST) (V : RoadKit.Fld Z U.heap x ST "value" "[B" (.ref t)) (C : RoadKit.Fld Z U.heap x ST "coder" "B" (.int cd)) (K : RoadKit.Arv Z U.heap t kb .byte N2 vs (.int 0)) (hc : CodA cs cd N2 vs) (hb : ∀ c ∈ cs, ¬ c < 0 ∧ ¬ (65535 : Int32) < c) (l2 : cs.length ≤ 4000) :
    ∃ A, Txt x t A cd cs.length (fun j => cs.getD j 0) U := by
  obtain ⟨A, K1, K2, K3, K4, K5, K6⟩ := K
  have hcod := hc.cod (by omega) K3 K5
  obtain ⟨D, fV, fC, hB, F1, F2, g1, g2, -, -⟩ := strObj wi al E V C
  exact ⟨A, ⟨_, hB.2.2.1, D, hB.1, rfl, by cases q : D.vm <;> first | rfl | exact absurd q (hB.2.1.2 _)⟩, Has.of hB F1 g1, Has.of hB F2 g2, ⟨K1.1, State.isArrayOf_alike al K1.2.1, K1.2.2, by rcases hcod with ⟨-, q, -⟩ | ⟨-, q, -⟩ <;> omega⟩, hcod, fun j hj => by
    have e : cs.getD j 0 = cs[j] := by simp [List.getD_eq_getElem?_getD, hj]
    show ¬ cs.getD j 0 < 0 ∧ ¬ 65535 < cs.getD j 0
    rw [e]; exact hb _ (List.getElem_mem _)⟩
theorem same_list (cs ds : List Int32) : SameT cs.length (fun j => cs.getD j 0) ds.length (fun j => ds.getD j 0) ↔ cs = ds := by
  constructor
  · rintro ⟨e, q⟩
    refine List.ext_getElem e fun j h1 h2 => ?_
    have := q j h1
    simpa [List.getD_eq_getElem?_getD, h1, h2] using this
  · rintro rfl
    exact ⟨rfl, fun _ _ => rfl⟩
/-- **equals(Object) OF TWO SUCH STRINGS**: 1 just where the chars are the same -/
theorem eqW {p : Program} {l : Launch} {e : Env} {R : Room} {s : State} {args : Array Value} {below : List Frame} {len W : Nat} {Z : State} {a0 : Array Value} {h : Heap} (hZ : Z.Warmed39 s.vm) (hw : ∀ d ∈ wordsEq, d.before a0 Z = true) {kI : Nat} (wi : (Jvm.Cond.instantiable ST kI).before a0 Z = true)
    {x t : Addr} {kb : ClassId} {cs : List Int32} {cd N2 : Int32} {vs : List Value} (E : RoadKit.Exa Z h x ST) (V : RoadKit.Fld Z h x ST "value" "[B" (.ref t)) (C : RoadKit.Fld Z h x ST "coder" "B" (.int cd)) (K : RoadKit.Arv Z h t kb .byte N2 vs (.int 0)) (hc : CodA cs cd N2 vs) (hb : ∀ c ∈ cs, ¬ c < 0 ∧ ¬ (65535 : Int32) < c) (l2 : cs.length ≤ 4000)
    {y t' : Addr} {kb' : ClassId} {ds : List Int32} {cd' N2' : Int32} {vs' : List Value} (E' : RoadKit.Exa Z h y ST) (V' : RoadKit.Fld Z h y ST "value" "[B" (.ref t')) (C' : RoadKit.Fld Z h y ST "coder" "B" (.int cd')) (K' : RoadKit.Arv Z h t' kb' .byte N2' vs' (.int 0)) (hc' : CodA ds cd' N2' vs') (hb' : ∀ c ∈ ds, ¬ c < 0 ∧ ¬ (65535 : Int32) < c) (l2' : ds.length ≤ 4000)
    {z : Int32} (S : RoadKit.Sta Z h ST "COMPACT_STRINGS" "Z" (.int z)) (hz : ¬ z = 0) (hfr : 2 ≤ R.frames) (hlo : W + 28 ≤ R.locals) :
    Back l R p e below s args (⟨"java/lang/String", "equals", "(Ljava/lang/Object;)Z"⟩ : MethodName) len W (fun P a => a = #[.ref x, .ref y] ∧ P.U.heap = h ∧ P.cells + 0 ≤ R.cells ∧ P.slots + 0 ≤ R.slots)
      (fun P _ v B => ∃ L, (((v = some (.int 1) ∧ cs = ds) ∨ (v = some (.int 0) ∧ ¬ cs = ds)) ∧ L = [] ∧ B.U.heap = h) ∧ B.locs = P.locs ++ L ∧ B.cells = P.cells + 0 ∧ B.slots = P.slots + 0) := by
  intro m meth c P g ig mk a X hg hsize hdg hW hn hp'
  obtain ⟨rfl, rfl, r1, r2⟩ := hp'
  have al : Z.vm.Alike P.U.vm := hZ.alike.trans X.warmed.alike
  obtain ⟨A, hx⟩ := txt_of wi al E V C K hc hb l2
  obtain ⟨A', hy⟩ := txt_of wi al E' V' C' K' hc' hb' l2'
  obtain ⟨v, B, X', ⟨⟨w, hv, hh, hq⟩, hl, hk, hs⟩, st⟩ := SEq.pays x t A cd cs.length (fun j => cs.getD j 0) y t' A' cd' ds.length (fun j => ds.getD j 0) z (tabEq_of (movedEq hZ hw)) hfr hlo m meth c P g ig mk _ X hg hsize hdg hW hn ⟨r1, r2, rfl, hx, hy, sta_is al S, hz⟩
  refine ⟨v, B, X', ⟨[], ⟨?_, rfl, hh⟩, hl, hk, hs⟩, st⟩
  rcases hq with ⟨rfl, q⟩ | ⟨rfl, q⟩
  · exact Or.inl ⟨hv, (same_list cs ds).mp q⟩
  · exact Or.inr ⟨hv, fun e => q ((same_list cs ds).mpr e)⟩
end StrChars.Road
namespace StrChars.Road
open Jvm Sem ClassFile Op Lib Jvm.Stand Jvm.Free Jvm.Free.XT
open Jvm.Lib.Cold (StaticIs)
/-- what backV says of its String, as the contracts of this text ask it: cs's low bytes, coder 0 -/
theorem codOf {cs : List Int32} {n : Nat} (hn : cs.length = n) (hb : ∀ c ∈ cs, ¬ 255 < c) : CodA cs 0 (Int32.ofNat n) ((cs.map lo8).map Value.int) := Or.inl ⟨rfl, by rw [hn], by simp [List.map_map, Function.comp_def], hb⟩
end StrChars.Road
end Jvm.Pilot.@@N@@
namespace Jvm.Pilot.@@N@@
open Jvm Jvm.ClassFile Sem Op Lib Jvm.Free Jvm.Stand Jvm.LawKit Jvm.RoadKit Jvm.OwnKit
/-- the object at a is a String of these chars -/
def SV (Z : State) (h : Heap) (a : Addr) (cs : List Int32) : Prop :=
  Exa Z h a "java/lang/String" ∧ ∃ (cd : Int32) (b : Addr) (kb : ClassId) (N2 : Int32) (vs : List Value), Fld Z h a "java/lang/String" "coder" "B" (.int cd) ∧ Fld Z h a "java/lang/String" "value" "[B" (.ref b) ∧ Arv Z h b kb .byte N2 vs (.int 0) ∧ StrChars.Road.CodA cs cd N2 vs ∧ (∀ c ∈ cs, ¬ c < 0 ∧ ¬ (65535 : Int32) < c) ∧ cs.length ≤ 4000
theorem SV.exa {Z : State} {h : Heap} {a : Addr} {cs : List Int32} (S : SV Z h a cs) : Exa Z h a "java/lang/String" := S.1
theorem SV.lt {Z : State} {h : Heap} {a : Addr} {cs : List Int32} (S : SV Z h a cs) : a < h.size := S.1.lt
theorem SV.ext {Z : State} {h h' : Heap} {a : Addr} {cs : List Int32} (S : SV Z h a cs) (E : Ext h h') : SV Z h' a cs := by
  obtain ⟨X, cd, b, kb, N2, vs, C, V, A, r⟩ := S
  exact ⟨X.ext E, cd, b, kb, N2, vs, C.ext E, V.ext E, A.ext E, r⟩
theorem SV.keepX {Z : State} {h h' : Heap} {a : Addr} {cs : List Int32} {ws : List Addr} (S : SV Z h a cs) (K : Keep h h' ws) (q : ∀ x ∈ ws, x ≠ a ∧ NB Z h x) : SV Z h' a cs := by
  obtain ⟨X, cd, b, kb, N2, vs, C, V, A, r⟩ := S
  have ha : a ∉ ws := fun z => (q a z).1 rfl
  have hb : b ∉ ws := fun z => by obtain ⟨c, A', -⟩ := A; exact (q b z).2 c A'
  exact ⟨X.keep K, cd, b, kb, N2, vs, C.keep K ha, V.keep K ha, A.keep K hb, r⟩
section Str
variable {p : Program} {l : Launch} {e : Env} {R : Room} {s : State} {args : Array Value} {below : List Frame} {len Wd : Nat} {Z : State} {a0 : Array Value} {h : Heap} {vm0 : Vm}
/-- new String(char[]) of one or more chars below 256 -/
theorem newS (hZ : Z.Warmed39 vm0) (hw : ∀ d ∈ StrChars.Road.words, d.before a0 Z = true) (wi : (Jvm.Cond.instantiable "java/lang/String" 4).before a0 Z = true) (O : Ext Z.heap h) {x b : Addr} {kC : ClassId} {cs : List Int32} {d v0 c0 : Value} {z N : Int32}
    (hx0 : Z.heap.size ≤ x) (E : Exa Z h x "java/lang/String") (V : Fld Z h x "java/lang/String" "value" "[B" v0) (C : Fld Z h x "java/lang/String" "coder" "B" c0) (K : Arv Z h b kC .char N (cs.map Value.int) d) (S : Sta Z Z.heap "java/lang/String" "COMPACT_STRINGS" "Z" (.int z)) (hz : ¬ z = 0)
    (n : Nat) (hn : cs.length = n) (hN : N = Int32.ofNat n) (l0 : 0 < n) (l2 : n ≤ 4000) (hp : ∀ c ∈ cs, C8 c) (hfr : 4 ≤ R.frames) (hlo : Wd + 65 ≤ R.locals) :
    Back l R p e below (s.setVm vm0) args (⟨"java/lang/String", "<init>", "([C)V"⟩ : MethodName) len Wd (PreB R #[.ref x, .ref b] h 1 n) (PostB Z h [x] (fun v h' => v = none ∧ SV Z h' x cs) 1 n) := by
  refine Back.mono (StrChars.Road.backV (s := s.setVm vm0) hZ hw wi (bs := cs.map (fun c => c.toInt8.toInt32)) hx0 O.1 E V C K (S.ext O) hz hn hN l0 l2 hp rfl hfr hlo) (fun _ _ q => q) (fun P a v B hp' hq => ?_)
  obtain ⟨L, ⟨q1, q2, q3, q4, q5, t, kb, -, -, -, q6, q7⟩, hl, hc, hs⟩ := hq
  exact ⟨L, ⟨q2, q3, q1, q4, 0, t, kb, N, _, q5, q6, q7, by rw [hN]; exact StrChars.Road.codOf hn (fun c hc => (hp c hc).2), fun c hc => (hp c hc).up, by omega⟩, hl, hc, hs⟩
end Str
end Jvm.Pilot.@@N@@
namespace Jvm.Pilot.@@N@@
open Jvm Jvm.ClassFile Sem Op Lib Jvm.Free Jvm.Stand Jvm.LawKit Jvm.RoadKit Jvm.OwnKit
theorem eqS {p : Program} {l : Launch} {e : Env} {R : Room} {s : State} {args : Array Value} {below : List Frame} {len Wd : Nat} {Z : State} {a0 : Array Value} {h : Heap} {vm0 : Vm} (hZ : Z.Warmed39 vm0) (hw : ∀ d ∈ StrChars.Road.wordsEq, d.before a0 Z = true) (wi : (Jvm.Cond.instantiable "java/lang/String" 4).before a0 Z = true) (O : Ext Z.heap h) {x y : Addr} {cs ds : List Int32} {z : Int32}
    (S : SV Z h x cs) (S' : SV Z h y ds) (hC : Sta Z Z.heap "java/lang/String" "COMPACT_STRINGS" "Z" (.int z)) (hz : ¬ z = 0) (hfr : 2 ≤ R.frames) (hlo : Wd + 28 ≤ R.locals) :
    Back l R p e below (s.setVm vm0) args (⟨"java/lang/String", "equals", "(Ljava/lang/Object;)Z"⟩ : MethodName) len Wd (PreB R #[.ref x, .ref y] h 0 0) (PostB Z h [] (fun v h' => v = some (.int (if cs = ds then 1 else 0)) ∧ h' = h) 0 0) := by
  obtain ⟨E, cd, b, kb, N2, vs, C, V, A, hc, hb, l2⟩ := S
  obtain ⟨E', cd', b', kb', N2', vs', C', V', A', hc', hb', l2'⟩ := S'
  refine Back.mono (StrChars.Road.eqW (s := s.setVm vm0) hZ hw wi E V C A hc hb l2 E' V' C' A' hc' hb' l2' (hC.ext O) hz hfr hlo) (fun _ _ q => q) (fun P a v B hp hq => ?_)
  obtain ⟨L, ⟨q1, q2, q3⟩, hl, hk, hs⟩ := hq
  refine ⟨L, ⟨by rw [q2]; exact Fr.nil _, by rw [q3]; exact Keep.refl _ _, ?_, q3⟩, hl, hk, hs⟩
  rcases q1 with ⟨r1, r2⟩ | ⟨r1, r2⟩
  · rw [r1, if_pos r2]
  · rw [r1, if_neg r2]
end Jvm.Pilot.@@N@@
namespace Jvm.Pilot.@@N@@
open Jvm Jvm.ClassFile Sem Op Lib Jvm.Free Jvm.Stand Jvm.LawKit Jvm.RoadKit Jvm.OwnKit Bundle Jvm.Pilot.@@N@@.Jvm.D
theorem wd {a0 : Array Value} {Z : State} (hw : ∀ d ∈ tables_1, d.before a0 Z = true) (k : Nat) {d : Jvm.Cond} (h : tables_1[k]? = some d) : d.before a0 Z = true := hw _ (List.mem_of_getElem? h)
theorem wsNew {a0 : Array Value} {Z : State} (hw : ∀ d ∈ tables_1, d.before a0 Z = true) : ∀ d ∈ StrChars.Road.words, d.before a0 Z = true := fun d hd => hw d ((by decide +kernel : ∀ d ∈ StrChars.Road.words, d ∈ tables_1) d hd)
theorem wsEq {a0 : Array Value} {Z : State} (hw : ∀ d ∈ tables_1, d.before a0 Z = true) : ∀ d ∈ StrChars.Road.wordsEq, d.before a0 Z = true := fun d hd => hw d ((by decide +kernel : ∀ d ∈ StrChars.Road.wordsEq, d ∈ tables_1) d hd)
theorem elw {a0 : Array Value} {Z : State} (hw : ∀ d ∈ tables_1, d.before a0 Z = true) : EW Z a0 consts_1 := EW.cons (wd hw 27 rfl) (by decide) (EW.nil)
theorem wsStr {a0 : Array Value} {Z : State} (hw : ∀ d ∈ tables_1, d.before a0 Z = true) : ∀ d ∈ Bundle.stringAtoms, d.before a0 Z = true := fun d hd => hw d ((by decide +kernel : ∀ d ∈ Bundle.stringAtoms, d ∈ tables_1) d hd)
theorem pn0 : plainName "java/lang/String" = true := by first | (simp [plainName, overriddenIn]; done) | decide +kernel
theorem pn1 : plainName "com/example/federation/federation/PropertyConditionEqualsPinLaw" = true := by first | (simp [plainName, overriddenIn]; done) | decide +kernel
theorem pn2 : plainName "com/example/federation/federation/PropertyCondition" = true := by first | (simp [plainName, overriddenIn]; done) | decide +kernel
theorem d1_0 : decode method_5_code 0 = .ok (.iload_n 0, 1) := by decide +kernel
theorem d1_1 : decode method_5_code 1 = .ok (.iconst 1, 1) := by decide +kernel
theorem d1_2 : decode method_5_code 2 = .ok (.if_icmp .ne 5, 3) := by decide +kernel
theorem d1_5 : decode method_5_code 5 = .ok (.iload_n 2, 1) := by decide +kernel
theorem d1_6 : decode method_5_code 6 = .ok (.ireturn, 1) := by decide +kernel
theorem d1_7 : decode method_5_code 7 = .ok (.iload_n 0, 1) := by decide +kernel
theorem d1_8 : decode method_5_code 8 = .ok (.iconst 2, 1) := by decide +kernel
theorem d1_9 : decode method_5_code 9 = .ok (.if_icmp .ne 5, 3) := by decide +kernel
theorem d1_12 : decode method_5_code 12 = .ok (.iload_n 3, 1) := by decide +kernel
theorem d1_13 : decode method_5_code 13 = .ok (.ireturn, 1) := by decide +kernel
theorem d1_14 : decode method_5_code 14 = .ok (.iload_n 1, 1) := by decide +kernel
theorem d1_15 : decode method_5_code 15 = .ok (.ireturn, 1) := by decide +kernel
theorem d2_0 : decode method_4_code 0 = .ok (.iload_n 0, 1) := by decide +kernel
theorem d2_1 : decode method_4_code 1 = .ok (.invokestatic 7, 3) := by decide +kernel
theorem d2_4 : decode method_4_code 4 = .ok (.istore_n 1, 1) := by decide +kernel
theorem d2_5 : decode method_4_code 5 = .ok (.iload_n 0, 1) := by decide +kernel
theorem d2_6 : decode method_4_code 6 = .ok (.sipush 255, 3) := by decide +kernel
theorem d2_9 : decode method_4_code 9 = .ok (.iand, 1) := by decide +kernel
theorem d2_10 : decode method_4_code 10 = .ok (.i2c, 1) := by decide +kernel
theorem d2_11 : decode method_4_code 11 = .ok (.istore_n 2, 1) := by decide +kernel
theorem d2_12 : decode method_4_code 12 = .ok (.iload_n 0, 1) := by decide +kernel
theorem d2_13 : decode method_4_code 13 = .ok (.bipush 8, 2) := by decide +kernel
theorem d2_15 : decode method_4_code 15 = .ok (.iushr, 1) := by decide +kernel
theorem d2_16 : decode method_4_code 16 = .ok (.sipush 255, 3) := by decide +kernel
theorem d2_19 : decode method_4_code 19 = .ok (.iand, 1) := by decide +kernel
theorem d2_20 : decode method_4_code 20 = .ok (.i2c, 1) := by decide +kernel
theorem d2_21 : decode method_4_code 21 = .ok (.istore_n 3, 1) := by decide +kernel
theorem d2_22 : decode method_4_code 22 = .ok (.iload_n 1, 1) := by decide +kernel
theorem d2_23 : decode method_4_code 23 = .ok (.ifCond .ne 14, 3) := by decide +kernel
theorem d2_26 : decode method_4_code 26 = .ok (.new 13, 3) := by decide +kernel
theorem d2_29 : decode method_4_code 29 = .ok (.dup, 1) := by decide +kernel
theorem d2_30 : decode method_4_code 30 = .ok (.iconst 0, 1) := by decide +kernel
theorem d2_31 : decode method_4_code 31 = .ok (.newarray .char, 2) := by decide +kernel
theorem d2_33 : decode method_4_code 33 = .ok (.invokespecial 15, 3) := by decide +kernel
theorem d2_36 : decode method_4_code 36 = .ok (.areturn, 1) := by decide +kernel
theorem d2_37 : decode method_4_code 37 = .ok (.iload_n 1, 1) := by decide +kernel
theorem d2_38 : decode method_4_code 38 = .ok (.iconst 1, 1) := by decide +kernel
theorem d2_39 : decode method_4_code 39 = .ok (.if_icmp .ne 18, 3) := by decide +kernel
theorem d2_42 : decode method_4_code 42 = .ok (.new 13, 3) := by decide +kernel
theorem d2_45 : decode method_4_code 45 = .ok (.dup, 1) := by decide +kernel
theorem d2_46 : decode method_4_code 46 = .ok (.iconst 1, 1) := by decide +kernel
theorem d2_47 : decode method_4_code 47 = .ok (.newarray .char, 2) := by decide +kernel
theorem d2_49 : decode method_4_code 49 = .ok (.dup, 1) := by decide +kernel
theorem d2_50 : decode method_4_code 50 = .ok (.iconst 0, 1) := by decide +kernel
theorem d2_51 : decode method_4_code 51 = .ok (.iload_n 2, 1) := by decide +kernel
theorem d2_52 : decode method_4_code 52 = .ok (.castore, 1) := by decide +kernel
theorem d2_53 : decode method_4_code 53 = .ok (.invokespecial 15, 3) := by decide +kernel
theorem d2_56 : decode method_4_code 56 = .ok (.areturn, 1) := by decide +kernel
theorem d2_57 : decode method_4_code 57 = .ok (.new 13, 3) := by decide +kernel
theorem d2_60 : decode method_4_code 60 = .ok (.dup, 1) := by decide +kernel
theorem d2_61 : decode method_4_code 61 = .ok (.iconst 2, 1) := by decide +kernel
theorem d2_62 : decode method_4_code 62 = .ok (.newarray .char, 2) := by decide +kernel
theorem d2_64 : decode method_4_code 64 = .ok (.dup, 1) := by decide +kernel
theorem d2_65 : decode method_4_code 65 = .ok (.iconst 0, 1) := by decide +kernel
theorem d2_66 : decode method_4_code 66 = .ok (.iload_n 2, 1) := by decide +kernel
theorem d2_67 : decode method_4_code 67 = .ok (.castore, 1) := by decide +kernel
theorem d2_68 : decode method_4_code 68 = .ok (.dup, 1) := by decide +kernel
theorem d2_69 : decode method_4_code 69 = .ok (.iconst 1, 1) := by decide +kernel
theorem d2_70 : decode method_4_code 70 = .ok (.iload_n 3, 1) := by decide +kernel
theorem d2_71 : decode method_4_code 71 = .ok (.castore, 1) := by decide +kernel
theorem d2_72 : decode method_4_code 72 = .ok (.invokespecial 15, 3) := by decide +kernel
theorem d2_75 : decode method_4_code 75 = .ok (.areturn, 1) := by decide +kernel
theorem d3_0 : decode method_2_code 0 = .ok (.iload_n 0, 1) := by decide +kernel
theorem d3_1 : decode method_2_code 1 = .ok (.bipush 16, 2) := by decide +kernel
theorem d3_3 : decode method_2_code 3 = .ok (.iushr, 1) := by decide +kernel
theorem d3_4 : decode method_2_code 4 = .ok (.iconst 3, 1) := by decide +kernel
theorem d3_5 : decode method_2_code 5 = .ok (.iand, 1) := by decide +kernel
theorem d3_6 : decode method_2_code 6 = .ok (.iconst 3, 1) := by decide +kernel
theorem d3_7 : decode method_2_code 7 = .ok (.irem, 1) := by decide +kernel
theorem d3_8 : decode method_2_code 8 = .ok (.ireturn, 1) := by decide +kernel
theorem d4_0 : decode jdk_42_method_3_code 0 = .ok (.aload_n 0, 1) := by decide +kernel
theorem d4_1 : decode jdk_42_method_3_code 1 = .ok (.aload_n 1, 1) := by decide +kernel
theorem d4_2 : decode jdk_42_method_3_code 2 = .ok (.iconst 0, 1) := by decide +kernel
theorem d4_3 : decode jdk_42_method_3_code 3 = .ok (.aload_n 1, 1) := by decide +kernel
theorem d4_4 : decode jdk_42_method_3_code 4 = .ok (.arraylength, 1) := by decide +kernel
theorem d4_5 : decode jdk_42_method_3_code 5 = .ok (.aconst_null, 1) := by decide +kernel
theorem d4_6 : decode jdk_42_method_3_code 6 = .ok (.invokespecial 27, 3) := by decide +kernel
theorem d4_9 : decode jdk_42_method_3_code 9 = .ok (.return_, 1) := by decide +kernel
theorem d5_0 : decode jdk_42_method_149_code 0 = .ok (.aload_n 0, 1) := by decide +kernel
theorem d5_1 : decode jdk_42_method_149_code 1 = .ok (.invokespecial 1, 3) := by decide +kernel
theorem d5_4 : decode jdk_42_method_149_code 4 = .ok (.iload_n 3, 1) := by decide +kernel
theorem d5_5 : decode jdk_42_method_149_code 5 = .ok (.ifCond .ne 22, 3) := by decide +kernel
theorem d5_8 : decode jdk_42_method_149_code 8 = .ok (.aload_n 0, 1) := by decide +kernel
theorem d5_9 : decode jdk_42_method_149_code 9 = .ok (.ldc 7, 2) := by decide +kernel
theorem d5_11 : decode jdk_42_method_149_code 11 = .ok (.getfield 9, 3) := by decide +kernel
theorem d5_14 : decode jdk_42_method_149_code 14 = .ok (.putfield 9, 3) := by decide +kernel
theorem d5_17 : decode jdk_42_method_149_code 17 = .ok (.aload_n 0, 1) := by decide +kernel
theorem d5_18 : decode jdk_42_method_149_code 18 = .ok (.ldc 7, 2) := by decide +kernel
theorem d5_20 : decode jdk_42_method_149_code 20 = .ok (.getfield 15, 3) := by decide +kernel
theorem d5_23 : decode jdk_42_method_149_code 23 = .ok (.putfield 15, 3) := by decide +kernel
theorem d5_26 : decode jdk_42_method_149_code 26 = .ok (.return_, 1) := by decide +kernel
theorem d7_0 : decode prog_40_method_1_code 0 = .ok (.aload_n 0, 1) := by decide +kernel
theorem d7_1 : decode prog_40_method_1_code 1 = .ok (.invokespecial 1, 3) := by decide +kernel
theorem d7_4 : decode prog_40_method_1_code 4 = .ok (.aload_n 0, 1) := by decide +kernel
theorem d7_5 : decode prog_40_method_1_code 5 = .ok (.aload_n 1, 1) := by decide +kernel
theorem d7_6 : decode prog_40_method_1_code 6 = .ok (.putfield 7, 3) := by decide +kernel
theorem d7_9 : decode prog_40_method_1_code 9 = .ok (.aload_n 0, 1) := by decide +kernel
theorem d7_10 : decode prog_40_method_1_code 10 = .ok (.aload_n 2, 1) := by decide +kernel
theorem d7_11 : decode prog_40_method_1_code 11 = .ok (.putfield 13, 3) := by decide +kernel
theorem d7_14 : decode prog_40_method_1_code 14 = .ok (.return_, 1) := by decide +kernel
theorem d8_0 : decode method_3_code 0 = .ok (.iload_n 0, 1) := by decide +kernel
theorem d8_1 : decode method_3_code 1 = .ok (.invokestatic 7, 3) := by decide +kernel
theorem d8_4 : decode method_3_code 4 = .ok (.istore_n 1, 1) := by decide +kernel
theorem d8_5 : decode method_3_code 5 = .ok (.iload_n 1, 1) := by decide +kernel
theorem d8_6 : decode method_3_code 6 = .ok (.bipush 16, 2) := by decide +kernel
theorem d8_8 : decode method_3_code 8 = .ok (.ishl, 1) := by decide +kernel
theorem d8_9 : decode method_3_code 9 = .ok (.istore_n 2, 1) := by decide +kernel
theorem d8_10 : decode method_3_code 10 = .ok (.iload_n 1, 1) := by decide +kernel
theorem d8_11 : decode method_3_code 11 = .ok (.iconst 1, 1) := by decide +kernel
theorem d8_12 : decode method_3_code 12 = .ok (.if_icmp .lt 11, 3) := by decide +kernel
theorem d8_15 : decode method_3_code 15 = .ok (.iload_n 2, 1) := by decide +kernel
theorem d8_16 : decode method_3_code 16 = .ok (.iload_n 0, 1) := by decide +kernel
theorem d8_17 : decode method_3_code 17 = .ok (.sipush 255, 3) := by decide +kernel
theorem d8_20 : decode method_3_code 20 = .ok (.iand, 1) := by decide +kernel
theorem d8_21 : decode method_3_code 21 = .ok (.iadd, 1) := by decide +kernel
theorem d8_22 : decode method_3_code 22 = .ok (.istore_n 2, 1) := by decide +kernel
theorem d8_23 : decode method_3_code 23 = .ok (.iload_n 1, 1) := by decide +kernel
theorem d8_24 : decode method_3_code 24 = .ok (.iconst 2, 1) := by decide +kernel
theorem d8_25 : decode method_3_code 25 = .ok (.if_icmp .lt 17, 3) := by decide +kernel
theorem d8_28 : decode method_3_code 28 = .ok (.iload_n 2, 1) := by decide +kernel
theorem d8_29 : decode method_3_code 29 = .ok (.iload_n 0, 1) := by decide +kernel
theorem d8_30 : decode method_3_code 30 = .ok (.bipush 8, 2) := by decide +kernel
theorem d8_32 : decode method_3_code 32 = .ok (.iushr, 1) := by decide +kernel
theorem d8_33 : decode method_3_code 33 = .ok (.sipush 255, 3) := by decide +kernel
theorem d8_36 : decode method_3_code 36 = .ok (.iand, 1) := by decide +kernel
theorem d8_37 : decode method_3_code 37 = .ok (.bipush 8, 2) := by decide +kernel
theorem d8_39 : decode method_3_code 39 = .ok (.ishl, 1) := by decide +kernel
theorem d8_40 : decode method_3_code 40 = .ok (.iadd, 1) := by decide +kernel
theorem d8_41 : decode method_3_code 41 = .ok (.istore_n 2, 1) := by decide +kernel
theorem d8_42 : decode method_3_code 42 = .ok (.iload_n 2, 1) := by decide +kernel
theorem d8_43 : decode method_3_code 43 = .ok (.ireturn, 1) := by decide +kernel
theorem d9_0 : decode prog_40_method_6_code 0 = .ok (.aload_n 1, 1) := by decide +kernel
theorem d9_1 : decode prog_40_method_6_code 1 = .ok (.instanceof 8, 3) := by decide +kernel
theorem d9_4 : decode prog_40_method_6_code 4 = .ok (.ifCond .eq 11, 3) := by decide +kernel
theorem d9_7 : decode prog_40_method_6_code 7 = .ok (.aload_n 1, 1) := by decide +kernel
theorem d9_8 : decode prog_40_method_6_code 8 = .ok (.checkcast 8, 3) := by decide +kernel
theorem d9_11 : decode prog_40_method_6_code 11 = .ok (.astore_n 2, 1) := by decide +kernel
theorem d9_12 : decode prog_40_method_6_code 12 = .ok (.goto 5, 3) := by decide +kernel
theorem d9_15 : decode prog_40_method_6_code 15 = .ok (.iconst 0, 1) := by decide +kernel
theorem d9_16 : decode prog_40_method_6_code 16 = .ok (.ireturn, 1) := by decide +kernel
theorem d9_17 : decode prog_40_method_6_code 17 = .ok (.aload_n 0, 1) := by decide +kernel
theorem d9_18 : decode prog_40_method_6_code 18 = .ok (.getfield 7, 3) := by decide +kernel
theorem d9_21 : decode prog_40_method_6_code 21 = .ok (.aload_n 2, 1) := by decide +kernel
theorem d9_22 : decode prog_40_method_6_code 22 = .ok (.getfield 7, 3) := by decide +kernel
theorem d9_25 : decode prog_40_method_6_code 25 = .ok (.invokevirtual 65, 3) := by decide +kernel
theorem d9_28 : decode prog_40_method_6_code 28 = .ok (.ifCond .eq 17, 3) := by decide +kernel
theorem d9_31 : decode prog_40_method_6_code 31 = .ok (.aload_n 0, 1) := by decide +kernel
theorem d9_32 : decode prog_40_method_6_code 32 = .ok (.getfield 13, 3) := by decide +kernel
theorem d9_35 : decode prog_40_method_6_code 35 = .ok (.aload_n 2, 1) := by decide +kernel
theorem d9_36 : decode prog_40_method_6_code 36 = .ok (.getfield 13, 3) := by decide +kernel
theorem d9_39 : decode prog_40_method_6_code 39 = .ok (.invokevirtual 65, 3) := by decide +kernel
theorem d9_42 : decode prog_40_method_6_code 42 = .ok (.ifCond .ne 31, 3) := by decide +kernel
theorem d9_45 : decode prog_40_method_6_code 45 = .ok (.aload_n 0, 1) := by decide +kernel
theorem d9_46 : decode prog_40_method_6_code 46 = .ok (.getfield 7, 3) := by decide +kernel
theorem d9_49 : decode prog_40_method_6_code 49 = .ok (.aload_n 2, 1) := by decide +kernel
theorem d9_50 : decode prog_40_method_6_code 50 = .ok (.getfield 13, 3) := by decide +kernel
theorem d9_53 : decode prog_40_method_6_code 53 = .ok (.invokevirtual 65, 3) := by decide +kernel
theorem d9_56 : decode prog_40_method_6_code 56 = .ok (.ifCond .eq 21, 3) := by decide +kernel
theorem d9_59 : decode prog_40_method_6_code 59 = .ok (.aload_n 0, 1) := by decide +kernel
theorem d9_60 : decode prog_40_method_6_code 60 = .ok (.getfield 13, 3) := by decide +kernel
theorem d9_63 : decode prog_40_method_6_code 63 = .ok (.aload_n 2, 1) := by decide +kernel
theorem d9_64 : decode prog_40_method_6_code 64 = .ok (.getfield 7, 3) := by decide +kernel
theorem d9_67 : decode prog_40_method_6_code 67 = .ok (.invokevirtual 65, 3) := by decide +kernel
theorem d9_70 : decode prog_40_method_6_code 70 = .ok (.ifCond .eq 7, 3) := by decide +kernel
theorem d9_73 : decode prog_40_method_6_code 73 = .ok (.iconst 1, 1) := by decide +kernel
theorem d9_74 : decode prog_40_method_6_code 74 = .ok (.goto 4, 3) := by decide +kernel
theorem d9_77 : decode prog_40_method_6_code 77 = .ok (.iconst 0, 1) := by decide +kernel
theorem d9_78 : decode prog_40_method_6_code 78 = .ok (.ireturn, 1) := by decide +kernel
theorem pd0 : parseMethodDescriptor "([CIILjava/lang/Void;)V" = some ⟨[(.array .char), .int, .int, (.object "java/lang/Void")], none⟩ := by decide +kernel
theorem pd1 : parseMethodDescriptor "(I)I" = some ⟨[.int], some .int⟩ := by decide +kernel
theorem pd2 : parseMethodDescriptor "([C)V" = some ⟨[(.array .char)], none⟩ := by decide +kernel
theorem pd3 : parseMethodDescriptor "(Ljava/lang/Object;)Z" = some ⟨[(.object "java/lang/Object")], some .boolean⟩ := by decide +kernel
theorem pd4 : parseMethodDescriptor "(IIII)I" = some ⟨[.int, .int, .int, .int], some .int⟩ := by decide +kernel
theorem pd5 : parseMethodDescriptor "(I)Ljava/lang/String;" = some ⟨[.int], some (.object "java/lang/String")⟩ := by decide +kernel
theorem pd6 : parseMethodDescriptor "(Ljava/lang/String;Ljava/lang/String;)V" = some ⟨[(.object "java/lang/String"), (.object "java/lang/String")], none⟩ := by decide +kernel
theorem ef0 (m : MethodId) (x0 : Addr) (x1 : Addr) (x2 : Int32) (x3 : Int32) : entryFrame m #[(.ref x0), (.ref x1), (.int x2), (.int x3), .null] 6 = mkF m 0 #[.val (.ref x0), .val (.ref x1), .val (.int x2), .val (.int x3), .val .null, .unset] [] := by first | (simp [entryFrame, mkF, argsToLocals, cat_int, cat_long, cat_refv, cat_null]; done) | rfl
theorem ef1 (m : MethodId) (x0 : Addr) (x1 : Addr) : entryFrame m #[(.ref x0), (.ref x1)] 2 = mkF m 0 #[.val (.ref x0), .val (.ref x1)] [] := by first | (simp [entryFrame, mkF, argsToLocals, cat_int, cat_long, cat_refv, cat_null]; done) | rfl
theorem ef2 (m : MethodId) (x0 : Int32) (x1 : Int32) (x2 : Int32) (x3 : Int32) : entryFrame m #[(.int x0), (.int x1), (.int x2), (.int x3)] 4 = mkF m 0 #[.val (.int x0), .val (.int x1), .val (.int x2), .val (.int x3)] [] := by first | (simp [entryFrame, mkF, argsToLocals, cat_int, cat_long, cat_refv, cat_null]; done) | rfl
theorem ef3 (m : MethodId) (x0 : Int32) : entryFrame m #[(.int x0)] 1 = mkF m 0 #[.val (.int x0)] [] := by first | (simp [entryFrame, mkF, argsToLocals, cat_int, cat_long, cat_refv, cat_null]; done) | rfl
theorem ef4 (m : MethodId) (x0 : Int32) : entryFrame m #[(.int x0)] 3 = mkF m 0 #[.val (.int x0), .unset, .unset] [] := by first | (simp [entryFrame, mkF, argsToLocals, cat_int, cat_long, cat_refv, cat_null]; done) | rfl
theorem ef5 (m : MethodId) (x0 : Int32) : entryFrame m #[(.int x0)] 4 = mkF m 0 #[.val (.int x0), .unset, .unset, .unset] [] := by first | (simp [entryFrame, mkF, argsToLocals, cat_int, cat_long, cat_refv, cat_null]; done) | rfl
theorem ef6 (m : MethodId) (x0 : Addr) (x1 : Value) (c1 : x1.category = 1) (x2 : Value) (c2 : x2.category = 1) : entryFrame m #[(.ref x0), x1, x2] 3 = mkF m 0 #[.val (.ref x0), .val x1, .val x2] [] := by first | (simp [entryFrame, mkF, argsToLocals, cat_int, cat_long, cat_refv, cat_null, c1, c2]; done) | rfl
theorem ef7 (m : MethodId) (x0 : Addr) (x1 : Addr) : entryFrame m #[(.ref x0), (.ref x1)] 3 = mkF m 0 #[.val (.ref x0), .val (.ref x1), .unset] [] := by first | (simp [entryFrame, mkF, argsToLocals, cat_int, cat_long, cat_refv, cat_null]; done) | rfl
theorem ef8 (m : MethodId) (x0 : Addr) : entryFrame m #[(.ref x0), .null] 3 = mkF m 0 #[.val (.ref x0), .val .null, .unset] [] := by first | (simp [entryFrame, mkF, argsToLocals, cat_int, cat_long, cat_refv, cat_null]; done) | rfl
theorem ef9 (m : MethodId) (x0 : Int32) (x1 : Int32) (x2 : Int32) (x3 : Int32) (x4 : Int32) : entryFrame m #[(.int x0), (.int x1), (.int x2), (.int x3), (.int x4)] maxLocals = mkF m 0 #[.val (.int x0), .val (.int x1), .val (.int x2), .val (.int x3), .val (.int x4), .unset, .unset, .unset, .unset, .unset, .unset] [] := by first | (simp [entryFrame, mkF, argsToLocals, cat_int, cat_long, cat_refv, cat_null, maxLocals]; done) | rfl
theorem own_n {v p : Int32} (h : v = OwnKit.i2c (p &&& (255 : Int32))) : C8 v := h ▸ i2c_c8 p
theorem own_i01 {P : Prop} [Decidable P] : ((if P then (1 : Int32) else (0 : Int32)) = 0) ↔ ¬ P := by split <;> simp_all
theorem own_i1 {P : Prop} [Decidable P] : ((if P then (1 : Int32) else (0 : Int32)) = 1) ↔ P := by split <;> simp_all
theorem rng3 {v : Int32} (h0 : 0 ≤ v.toInt) (h : v.toInt < 3) : v = 0 ∨ v = 1 ∨ v = 2 := by
  have q : v.toInt = 0 ∨ v.toInt = 1 ∨ v.toInt = 2 := by omega
  rcases q with q | q | q
  · exact Or.inl (Int32.toInt_inj.mp (q.trans rfl))
  · exact Or.inr (Or.inl (Int32.toInt_inj.mp (q.trans rfl)))
  · exact Or.inr (Or.inr (Int32.toInt_inj.mp (q.trans rfl)))
theorem m3 (x : Int32) : (x &&& (3 : Int32)) % (3 : Int32) = 0 ∨ (x &&& (3 : Int32)) % (3 : Int32) = 1 ∨ (x &&& (3 : Int32)) % (3 : Int32) = 2 := by
  have h1 : (x &&& (3 : Int32)).toInt = x.toInt % 2 ^ 2 := Jvm.Kit.i32_mask x 3 (k := 2) (by decide) (by decide)
  have h2 := Jvm.Kit.i32_rem_nonneg (x := x &&& (3 : Int32)) (y := 3) (by rw [h1]; omega)
  have e3 : (3 : Int32).toInt = 3 := rfl
  exact rng3 (by rw [h2, e3]; omega) (by rw [h2, e3]; omega)
theorem m255 (x : Int32) : 0 ≤ (x &&& (255 : Int32)).toInt ∧ (x &&& (255 : Int32)).toInt < 256 := by
  have h := Jvm.Kit.i32_mask x 255 (k := 8) (by decide) (by decide)
  omega
def mkL (n a b : Int32) : List Int32 := if n = 0 then [] else if n = 1 then [a] else [a, b]
def kk (n a b : Int32) : Int32 := (if n < (1 : Int32) then (if n < (2 : Int32) then (n <<< ((16 : Int32) &&& 31)) else ((n <<< ((16 : Int32) &&& 31)) + (b <<< ((8 : Int32) &&& 31)))) else (if n < (2 : Int32) then ((n <<< ((16 : Int32) &&& 31)) + a) else (((n <<< ((16 : Int32) &&& 31)) + a) + (b <<< ((8 : Int32) &&& 31)))))
theorem kk_int {n a b : Int32} (hn : n = 0 ∨ n = 1 ∨ n = 2) (ha : 0 ≤ a.toInt ∧ a.toInt < 256) (hb : 0 ≤ b.toInt ∧ b.toInt < 256) : (kk n a b).toInt = (if n = 0 then 0 else if n = 1 then 65536 + a.toInt else 131072 + a.toInt + 256 * b.toInt) := by
  have e1 : ((1 : Int32) <<< ((16 : Int32) &&& 31)).toInt = 65536 := by decide
  have e2 : ((2 : Int32) <<< ((16 : Int32) &&& 31)).toInt = 131072 := by decide
  have e3 : (b <<< ((8 : Int32) &&& 31)).toInt = b.toInt * 2 ^ 8 := Jvm.Kit.i32_shl b _ (k := 8) (by decide) (by omega) (by omega)
  rcases hn with rfl | rfl | rfl
  · unfold kk; rw [if_pos (by decide), if_pos (by decide), if_pos rfl]; decide
  · unfold kk; rw [if_neg (by decide), if_pos (by decide), if_neg (by decide), if_pos rfl, Jvm.Kit.i32_add (by omega) (by omega), e1]
  · unfold kk; rw [if_neg (by decide), if_neg (by decide), if_neg (by decide), if_neg (by decide)]
    have e4 := Jvm.Kit.i32_add (p := (2 : Int32) <<< ((16 : Int32) &&& 31)) (q := a) (by omega) (by omega)
    rw [Jvm.Kit.i32_add (by omega) (by omega), e4, e2, e3]; omega
theorem own_kk {n a b k c d : Int32} (hn : n = 0 ∨ n = 1 ∨ n = 2) (hk : k = 0 ∨ k = 1 ∨ k = 2) (ha : 0 ≤ a.toInt ∧ a.toInt < 256) (hb : 0 ≤ b.toInt ∧ b.toInt < 256) (hc : 0 ≤ c.toInt ∧ c.toInt < 256) (hd : 0 ≤ d.toInt ∧ d.toInt < 256) : kk n a b = kk k c d ↔ mkL n a b = mkL k c d := by
  rw [← Int32.toInt_inj, kk_int hn ha hb, kk_int hk hc hd]
  rcases hn with rfl | rfl | rfl <;> rcases hk with rfl | rfl | rfl <;> simp +decide [mkL, ← Int32.toInt_inj] <;> omega
def QEm4 (Z : State) (a : Addr) (b : Addr) (h0 : Heap) : Option Value → Heap → Prop := fun v h => v = none ∧ SV Z h a []
set_option maxRecDepth 65536 in
set_option maxHeartbeats 40000000 in
theorem rmEm4 (l : Launch) (Z : State) (a0 : Array Value) (hw : ∀ d ∈ tables_1, d.before a0 Z = true) (a : Addr) (b : Addr) (h0 : Heap) (O : Ext Z.heap h0) (gz_a : Z.heap.size ≤ a) (Ea : Exa Z h0 a "java/lang/String") (Fv : Fld Z h0 a "java/lang/String" "value" "[B" .null) (Fc : Fld Z h0 a "java/lang/String" "coder" "B" (.int 0)) :
    CW [] l Z consts_1 (⟨"java/lang/String", "<init>", "([CIILjava/lang/Void;)V"⟩ : MethodName) jdk_42_method_149_code 6 (Option.none : Option Jvm.ClassFile.FieldType) ({ frames := 1, cells := 4, slots := 8, locals := 14 } : Room) #[(.ref a), (.ref b), (.int (0 : Int32)), (.int (0 : Int32)), .null] h0 [a] (QEm4 Z a b h0) := by
  refine CW.of_walk (plainFor_of_name pn0) O (ala gz_a ala0) ?_
  intro p e s m below meth c T0 W0 hsf hx hby hml hoZ hnm hret hlk
  have H0 := W0.here; have hz0 := W0.zsize; have hEL := elw hw
  refine Goes.cast (ef0 m a b (0 : Int32) (0 : Int32)) ?_
  have la := ltN Ea.lt
  refine G.aloadN H0 hx 1 (hb hby d5_0) rfl rfl rfl ?_
  refine Wk.initO W0 hx hoZ (wd hw 24 rfl) (wd hw 25 rfl) (wd hw 26 rfl) (by rw [hml]; rfl) 4 (hb hby d5_1) rfl (by decide) 0 (Nat.le_of_eq rfl) (by decide) ?_
  intro T1 W1; have H1 := W1.here
  refine G.iloadN H1 hx 5 (hb hby d5_4) rfl rfl ?_
  refine G.ifN H1 hx 8 (hb hby d5_5) (zeq (by decide)).2 rfl ?_
  refine G.aloadN H1 hx 9 (hb hby d5_8) rfl rfl rfl ?_
  refine Wk.ldcE W1 hx hoZ (text := "") (wd hw 27 rfl) (wsStr hw) hEL (by decide) (vs := []) (z := 0) ⟨by decide, by decide⟩ (by decide) (by decide) 11 (hb hby d5_9) rfl 0 (by decide) (by decide) (by decide) (by decide) ?_
  intro vm2 T2 h2 a2 b2 k2 W2 E2 Ch2 X2 F2c F2v V2 sep2
  have H2 := W2.here; have z2 := E2.1; have l2 := ltN X2.lt; have m2 := ltN V2.lt
  obtain ⟨nA2_a, nB2_a⟩ := sep2 a (Ch2.safe (ltA (by omega)) (hsf a (by simp)))
  have pA2_a := neN nA2_a; have pB2_a := neN nB2_a
  refine Wk.getF W2 hx hoZ (host := "") (Or.inl (wd hw 33 rfl)) Via.refl F2v 14 (hb hby d5_11) rfl ?_
  intro T3 W3; have H3 := W3.here
  refine Wk.putF W3 hx hoZ (wd hw 33 rfl) Via.refl (.ref b2) (Fv.ext E2) (Ea.ext E2) (Or.inr ⟨(wd hw 29 rfl), rfl, hnm⟩) (wd hw 14 rfl) (ty := (.array .byte)) (by decide) rfl rfl (Or.inl (by simp)) (Ch2.safe (ltA (by omega)) (hsf a (by simp))) 17 (hb hby d5_14) rfl ?_
  intro T4 h4 W4 R4 Ch4; have H4 := W4.here; have z4 := R4.size
  have F4 := ((Fv.ext E2)).same R4
  refine G.aloadN H4 hx 18 (hb hby d5_17) rfl rfl rfl ?_
  refine Wk.ldcE W4 hx hoZ (text := "") (wd hw 27 rfl) (wsStr hw) hEL (by decide) (vs := []) (z := 0) ⟨by decide, by decide⟩ (by decide) (by decide) 20 (hb hby d5_18) rfl 0 (by decide) (by decide) (by decide) (by decide) ?_
  intro vm5 T5 h5 a5 b5 k5 W5 E5 Ch5 X5 F5c F5v V5 sep5
  have H5 := W5.here; have z5 := E5.1; have l5 := ltN X5.lt; have m5 := ltN V5.lt
  obtain ⟨nA5_a, nB5_a⟩ := sep5 a (Ch5.safe (ltA (by omega)) (Ch4.safe (ltA (by omega)) (Ch2.safe (ltA (by omega)) (hsf a (by simp)))))
  have pA5_a := neN nA5_a; have pB5_a := neN nB5_a
  refine Wk.getF W5 hx hoZ (host := "") (Or.inl (wd hw 34 rfl)) Via.refl F5c 23 (hb hby d5_20) rfl ?_
  intro T6 W6; have H6 := W6.here
  refine Wk.putF W6 hx hoZ (wd hw 34 rfl) Via.refl (.int (0 : Int32)) (((Fc.ext E2).other R4 (Or.inr (slot_ne (Or.inr (wd hw 30 rfl)) (Or.inr (wd hw 29 rfl)) (by decide) (t := .byte) (t' := (.array .byte)) (by decide) (by decide)))).ext E5) (((Ea.ext E2).wr R4).ext E5) (Or.inr ⟨(wd hw 30 rfl), rfl, hnm⟩) (wd hw 14 rfl) (ty := .byte) (by decide) rfl rfl (Or.inl (by simp)) (Ch5.safe (ltA (by omega)) (Ch4.safe (ltA (by omega)) (Ch2.safe (ltA (by omega)) (hsf a (by simp))))) 26 (hb hby d5_23) rfl ?_
  intro T7 h7 W7 R7 Ch7; have H7 := W7.here; have z7 := R7.size
  have F7 := ((((Fc.ext E2).other R4 (Or.inr (slot_ne (Or.inr (wd hw 30 rfl)) (Or.inr (wd hw 29 rfl)) (by decide) (t := .byte) (t' := (.array .byte)) (by decide) (by decide)))).ext E5)).same R7
  exact Wk.retVW W7 hx hEL hret hlk (hb hby d5_26) (by decide) (by decide) ⟨rfl, ((((Ea.ext E2).wr R4).ext E5).wr R7), 0, _, _, 0, [], F7, ((F4.ext E5).other R7 (Or.inr (slot_ne (Or.inr (wd hw 29 rfl)) (Or.inr (wd hw 30 rfl)) (by decide) (t := (.array .byte)) (t' := .byte) (by decide) (by decide)))), (((V2.other R4 (neA (by omega))).ext E5).other R7 (neA (by omega))), Or.inl ⟨rfl, rfl, rfl, ala0⟩, ala0, by decide⟩
def QEm1 (Z : State) (a : Addr) (b : Addr) (kb : ClassId) (h0 : Heap) : Option Value → Heap → Prop := fun v h => v = none ∧ SV Z h a []
set_option maxRecDepth 65536 in
set_option maxHeartbeats 40000000 in
theorem rmEm1 (l : Launch) (Z : State) (a0 : Array Value) (hw : ∀ d ∈ tables_1, d.before a0 Z = true) (a : Addr) (b : Addr) (kb : ClassId) (h0 : Heap) (O : Ext Z.heap h0) (gz_a : Z.heap.size ≤ a) (Ea : Exa Z h0 a "java/lang/String") (Fv : Fld Z h0 a "java/lang/String" "value" "[B" .null) (Fc : Fld Z h0 a "java/lang/String" "coder" "B" (.int 0)) (Vb : Arv Z h0 b kb .char 0 [] (.int 0)) :
    CW [] l Z consts_1 (⟨"java/lang/String", "<init>", "([C)V"⟩ : MethodName) jdk_42_method_3_code 2 (Option.none : Option Jvm.ClassFile.FieldType) ({ frames := 2, cells := 4, slots := 8, locals := 32 } : Room) #[(.ref a), (.ref b)] h0 [a] (QEm1 Z a b kb h0) := by
  refine CW.of_walk (plainFor_of_name pn0) O (ala gz_a ala0) ?_
  intro p e s m below meth c T0 W0 hsf hx hby hml hoZ hnm hret hlk
  have H0 := W0.here; have hz0 := W0.zsize; have hEL := elw hw
  refine Goes.cast (ef1 m a b) ?_
  have la := ltN Ea.lt
  refine G.aloadN H0 hx 1 (hb hby d4_0) rfl rfl rfl ?_
  refine G.aloadN H0 hx 2 (hb hby d4_1) rfl rfl rfl ?_
  refine G.iconst H0 hx 3 (0 : Int32) (hb hby d4_2) rfl rfl ?_
  refine G.aloadN H0 hx 4 (hb hby d4_3) rfl rfl rfl ?_
  refine Wk.arraylength W0 hx Vb 5 (hb hby d4_4) rfl ?_
  refine G.aconstNull H0 hx 6 (hb hby d4_5) rfl ?_
  refine Wk.specialW W0 hx hoZ (y := (⟨"java/lang/String", "<init>", "([CIILjava/lang/Void;)V"⟩ : MethodName)) rfl (wd hw 20 rfl) (wd hw 21 rfl) (wd hw 23 rfl) (by decide) (Wd := 0) (CW.back (rmEm4 l Z a0 hw a b h0 W0.old (by omega) Ea Fv Fc) W0.warm (wd hw 23 rfl) (wd hw 15 rfl) (by decide) (by decide) hEL W0.ch (all1 (by omega)) (ala (hsf a (by simp)) ala0)) a (by rw [hml]; rfl) [(.ref b), (.int (0 : Int32)), (.int (0 : Int32)), .null] [] (lenOf pd0 rfl) rfl rfl (Nat.le_of_eq rfl) 9 (hb hby d4_6) rfl (by decide) (by decide) (hws1 (Or.inl (by simp)) (hsf a (by simp))) ?_
  intro v1 vm1 T1 h1 W1 K1 Ch1 Q1
  have H1 := W1.here; have z1 := K1.1
  obtain ⟨rfl, Sv1⟩ := Q1
  show Goes p e below (PostW s Z consts_1 h0 [a] (QEm1 Z a b kb h0) ({ frames := 2, cells := 4, slots := 8, locals := 32 } : Room).cells ({ frames := 2, cells := 4, slots := 8, locals := 32 } : Room).slots) (T1.setTop (mkF m 9 #[.val (.ref a), .val (.ref b)] []))
  exact Wk.retVW W1 hx hEL hret hlk (hb hby d4_9) (by decide) (by decide) ⟨rfl, Sv1⟩
def f_pick (x0 : Int32) (x1 : Int32) (x2 : Int32) (x3 : Int32) : Int32 := (if x0 = (1 : Int32) then x2 else (if x0 = (2 : Int32) then x3 else x1))
def Qpick (Z : State) (x0 : Int32) (x1 : Int32) (x2 : Int32) (x3 : Int32) (h0 : Heap) : Option Value → Heap → Prop := fun v h => v = some (.int (f_pick x0 x1 x2 x3)) ∧ h = h0
set_option maxRecDepth 65536 in
set_option maxHeartbeats 40000000 in
theorem rmpick (l : Launch) (Z : State) (a0 : Array Value) (hw : ∀ d ∈ tables_1, d.before a0 Z = true) (x0 : Int32) (x1 : Int32) (x2 : Int32) (x3 : Int32) (h0 : Heap) (O : Ext Z.heap h0) :
    CN [] l Z (⟨"com/example/federation/federation/PropertyConditionEqualsPinLaw", "pick", "(IIII)I"⟩ : MethodName) method_5_code 4 (Option.some Jvm.ClassFile.FieldType.int) ({ frames := 0, cells := 0, slots := 0, locals := 0 } : Room) #[(.int x0), (.int x1), (.int x2), (.int x3)] h0 [] (Qpick Z x0 x1 x2 x3 h0) := by
  refine CN.of_walk (plainFor_of_name pn1) O (fun _ q => nomatch q) ?_
  intro p e s m below meth c T0 W0 hx hby hml hoZ hnm hret hlk
  have H0 := W0.here; have hz0 := W0.zsize
  refine Goes.cast (ef2 m x0 x1 x2 x3) ?_
  refine G.iloadN H0 hx 1 (hb hby d1_0) rfl rfl ?_
  refine G.iconst H0 hx 2 (1 : Int32) (hb hby d1_1) rfl rfl ?_
  by_cases c2_1 : x0 = (1 : Int32)
  ·
    refine G.icmpN H0 hx 5 (hb hby d1_2) (teq c2_1).2 rfl ?_
    refine G.iloadN H0 hx 6 (hb hby d1_5) rfl rfl ?_
    exact Wk.retI W0 hx hret hlk (hb hby d1_6) (by decide) (by decide) ⟨(by simp only [f_pick, if_pos c2_1]), rfl⟩
  ·
    refine G.icmpY H0 hx 7 (hb hby d1_2) (feq c2_1).2 (by decide) rfl ?_
    refine G.iloadN H0 hx 8 (hb hby d1_7) rfl rfl ?_
    refine G.iconst H0 hx 9 (2 : Int32) (hb hby d1_8) rfl rfl ?_
    by_cases c9_2 : x0 = (2 : Int32)
    ·
      refine G.icmpN H0 hx 12 (hb hby d1_9) (teq c9_2).2 rfl ?_
      refine G.iloadN H0 hx 13 (hb hby d1_12) rfl rfl ?_
      exact Wk.retI W0 hx hret hlk (hb hby d1_13) (by decide) (by decide) ⟨(by simp only [f_pick, if_neg c2_1, if_pos c9_2]), rfl⟩
    ·
      refine G.icmpY H0 hx 14 (hb hby d1_9) (feq c9_2).2 (by decide) rfl ?_
      refine G.iloadN H0 hx 15 (hb hby d1_14) rfl rfl ?_
      exact Wk.retI W0 hx hret hlk (hb hby d1_15) (by decide) (by decide) ⟨(by simp only [f_pick, if_neg c2_1, if_neg c9_2]), rfl⟩
def f_len (x0 : Int32) : Int32 := (((XT.ushr x0 (16 : Int32)) &&& (3 : Int32)) % (3 : Int32))
def Qlen (Z : State) (x0 : Int32) (h0 : Heap) : Option Value → Heap → Prop := fun v h => v = some (.int (f_len x0)) ∧ h = h0
set_option maxRecDepth 65536 in
set_option maxHeartbeats 40000000 in
theorem rmlen (l : Launch) (Z : State) (a0 : Array Value) (hw : ∀ d ∈ tables_1, d.before a0 Z = true) (x0 : Int32) (h0 : Heap) (O : Ext Z.heap h0) :
    CN [] l Z (⟨"com/example/federation/federation/PropertyConditionEqualsPinLaw", "len", "(I)I"⟩ : MethodName) method_2_code 1 (Option.some Jvm.ClassFile.FieldType.int) ({ frames := 0, cells := 0, slots := 0, locals := 0 } : Room) #[(.int x0)] h0 [] (Qlen Z x0 h0) := by
  refine CN.of_walk (plainFor_of_name pn1) O (fun _ q => nomatch q) ?_
  intro p e s m below meth c T0 W0 hx hby hml hoZ hnm hret hlk
  have H0 := W0.here; have hz0 := W0.zsize
  refine Goes.cast (ef3 m x0) ?_
  refine G.iloadN H0 hx 1 (hb hby d3_0) rfl rfl ?_
  refine G.bipush H0 hx 3 (16 : Int32) (hb hby d3_1) rfl rfl ?_
  refine G.iushr H0 hx 4 (hb hby d3_3) rfl ?_
  refine G.iconst H0 hx 5 (3 : Int32) (hb hby d3_4) rfl rfl ?_
  refine G.iand H0 hx 6 (hb hby d3_5) rfl ?_
  refine G.iconst H0 hx 7 (3 : Int32) (hb hby d3_6) rfl rfl ?_
  refine G.irem H0 hx 8 (hb hby d3_7) (by decide) rfl ?_
  exact Wk.retI W0 hx hret hlk (hb hby d3_8) (by decide) (by decide) ⟨(by simp only [f_len]), rfl⟩
def f_key (x0 : Int32) : Int32 := (if (f_len x0) < (1 : Int32) then (if (f_len x0) < (2 : Int32) then ((f_len x0) <<< ((16 : Int32) &&& 31)) else (((f_len x0) <<< ((16 : Int32) &&& 31)) + (((XT.ushr x0 (8 : Int32)) &&& (255 : Int32)) <<< ((8 : Int32) &&& 31)))) else (if (f_len x0) < (2 : Int32) then (((f_len x0) <<< ((16 : Int32) &&& 31)) + (x0 &&& (255 : Int32))) else ((((f_len x0) <<< ((16 : Int32) &&& 31)) + (x0 &&& (255 : Int32))) + (((XT.ushr x0 (8 : Int32)) &&& (255 : Int32)) <<< ((8 : Int32) &&& 31)))))
def Qkey (Z : State) (x0 : Int32) (h0 : Heap) : Option Value → Heap → Prop := fun v h => v = some (.int (f_key x0)) ∧ h = h0
set_option maxRecDepth 65536 in
set_option maxHeartbeats 40000000 in
theorem rmkey (l : Launch) (Z : State) (a0 : Array Value) (hw : ∀ d ∈ tables_1, d.before a0 Z = true) (x0 : Int32) (h0 : Heap) (O : Ext Z.heap h0) :
    CN [] l Z (⟨"com/example/federation/federation/PropertyConditionEqualsPinLaw", "key", "(I)I"⟩ : MethodName) method_3_code 3 (Option.some Jvm.ClassFile.FieldType.int) ({ frames := 1, cells := 0, slots := 0, locals := 14 } : Room) #[(.int x0)] h0 [] (Qkey Z x0 h0) := by
  refine CN.of_walk (plainFor_of_name pn1) O (fun _ q => nomatch q) ?_
  intro p e s m below meth c T0 W0 hx hby hml hoZ hnm hret hlk
  have H0 := W0.here; have hz0 := W0.zsize
  refine Goes.cast (ef4 m x0) ?_
  refine G.iloadN H0 hx 1 (hb hby d8_0) rfl rfl ?_
  refine Wk.callS W0 hx hoZ (y := (⟨"com/example/federation/federation/PropertyConditionEqualsPinLaw", "len", "(I)I"⟩ : MethodName)) (wd hw 10 rfl) (wd hw 11 rfl) (wd hw 2 rfl) (wd hw 12 rfl) (by decide) (Wd := 0) (CN.back (rmlen l Z a0 hw x0 h0 W0.old ) W0.warm (wd hw 12 rfl) (wd hw 2 rfl) (by decide) (by decide)) (by rw [hml]; rfl) [(.int x0)] [] (lenOf pd1 rfl) rfl rfl (Nat.le_of_eq rfl) 4 (hb hby d8_1) rfl (by decide) (by decide) (fun _ q => nomatch q) ?_
  intro v1 T1 h1 W1 K1 Ch1 Q1
  have H1 := W1.here; have z1 := K1.1
  obtain ⟨rfl, eh1⟩ := Q1
  show Goes p e below (PostN s Z h0 [] (Qkey Z x0 h0) ({ frames := 1, cells := 0, slots := 0, locals := 14 } : Room).cells ({ frames := 1, cells := 0, slots := 0, locals := 14 } : Room).slots) (T1.setTop (mkF m 4 #[.val (.int x0), .unset, .unset] [(.int (f_len x0))]))
  refine G.istoreNX H1 hx 5 #[.val (.int x0), .val (.int (f_len x0)), .unset] (hb hby d8_4) rfl rfl ?_
  refine G.iloadN H1 hx 6 (hb hby d8_5) rfl rfl ?_
  refine G.bipush H1 hx 8 (16 : Int32) (hb hby d8_6) rfl rfl ?_
  refine G.ishl H1 hx 9 (hb hby d8_8) rfl ?_
  refine G.istoreNX H1 hx 10 #[.val (.int x0), .val (.int (f_len x0)), .val (.int ((f_len x0) <<< ((16 : Int32) &&& 31)))] (hb hby d8_9) rfl rfl ?_
  refine G.iloadN H1 hx 11 (hb hby d8_10) rfl rfl ?_
  refine G.iconst H1 hx 12 (1 : Int32) (hb hby d8_11) rfl rfl ?_
  by_cases c12_2 : (f_len x0) < (1 : Int32)
  ·
    refine G.icmpY H1 hx 23 (hb hby d8_12) (tlt c12_2).1 (by decide) rfl ?_
    refine G.iloadN H1 hx 24 (hb hby d8_23) rfl rfl ?_
    refine G.iconst H1 hx 25 (2 : Int32) (hb hby d8_24) rfl rfl ?_
    by_cases c25_3 : (f_len x0) < (2 : Int32)
    ·
      refine G.icmpY H1 hx 42 (hb hby d8_25) (tlt c25_3).1 (by decide) rfl ?_
      refine G.iloadN H1 hx 43 (hb hby d8_42) rfl rfl ?_
      exact Wk.retI W1 hx hret hlk (hb hby d8_43) (by decide) (by decide) ⟨(by simp only [f_key, if_pos c12_2, if_pos c25_3]), (by rw [eh1])⟩
    ·
      refine G.icmpN H1 hx 28 (hb hby d8_25) (flt c25_3).1 rfl ?_
      refine G.iloadN H1 hx 29 (hb hby d8_28) rfl rfl ?_
      refine G.iloadN H1 hx 30 (hb hby d8_29) rfl rfl ?_
      refine G.bipush H1 hx 32 (8 : Int32) (hb hby d8_30) rfl rfl ?_
      refine G.iushr H1 hx 33 (hb hby d8_32) rfl ?_
      refine G.sipush H1 hx 36 (255 : Int32) (hb hby d8_33) rfl rfl ?_
      refine G.iand H1 hx 37 (hb hby d8_36) rfl ?_
      refine G.bipush H1 hx 39 (8 : Int32) (hb hby d8_37) rfl rfl ?_
      refine G.ishl H1 hx 40 (hb hby d8_39) rfl ?_
      refine G.iadd H1 hx 41 (hb hby d8_40) rfl ?_
      refine G.istoreNX H1 hx 42 #[.val (.int x0), .val (.int (f_len x0)), .val (.int (((f_len x0) <<< ((16 : Int32) &&& 31)) + (((XT.ushr x0 (8 : Int32)) &&& (255 : Int32)) <<< ((8 : Int32) &&& 31))))] (hb hby d8_41) rfl rfl ?_
      refine G.iloadN H1 hx 43 (hb hby d8_42) rfl rfl ?_
      exact Wk.retI W1 hx hret hlk (hb hby d8_43) (by decide) (by decide) ⟨(by simp only [f_key, if_pos c12_2, if_neg c25_3]), (by rw [eh1])⟩
  ·
    refine G.icmpN H1 hx 15 (hb hby d8_12) (flt c12_2).1 rfl ?_
    refine G.iloadN H1 hx 16 (hb hby d8_15) rfl rfl ?_
    refine G.iloadN H1 hx 17 (hb hby d8_16) rfl rfl ?_
    refine G.sipush H1 hx 20 (255 : Int32) (hb hby d8_17) rfl rfl ?_
    refine G.iand H1 hx 21 (hb hby d8_20) rfl ?_
    refine G.iadd H1 hx 22 (hb hby d8_21) rfl ?_
    refine G.istoreNX H1 hx 23 #[.val (.int x0), .val (.int (f_len x0)), .val (.int (((f_len x0) <<< ((16 : Int32) &&& 31)) + (x0 &&& (255 : Int32))))] (hb hby d8_22) rfl rfl ?_
    refine G.iloadN H1 hx 24 (hb hby d8_23) rfl rfl ?_
    refine G.iconst H1 hx 25 (2 : Int32) (hb hby d8_24) rfl rfl ?_
    by_cases c25_4 : (f_len x0) < (2 : Int32)
    ·
      refine G.icmpY H1 hx 42 (hb hby d8_25) (tlt c25_4).1 (by decide) rfl ?_
      refine G.iloadN H1 hx 43 (hb hby d8_42) rfl rfl ?_
      exact Wk.retI W1 hx hret hlk (hb hby d8_43) (by decide) (by decide) ⟨(by simp only [f_key, if_neg c12_2, if_pos c25_4]), (by rw [eh1])⟩
    ·
      refine G.icmpN H1 hx 28 (hb hby d8_25) (flt c25_4).1 rfl ?_
      refine G.iloadN H1 hx 29 (hb hby d8_28) rfl rfl ?_
      refine G.iloadN H1 hx 30 (hb hby d8_29) rfl rfl ?_
      refine G.bipush H1 hx 32 (8 : Int32) (hb hby d8_30) rfl rfl ?_
      refine G.iushr H1 hx 33 (hb hby d8_32) rfl ?_
      refine G.sipush H1 hx 36 (255 : Int32) (hb hby d8_33) rfl rfl ?_
      refine G.iand H1 hx 37 (hb hby d8_36) rfl ?_
      refine G.bipush H1 hx 39 (8 : Int32) (hb hby d8_37) rfl rfl ?_
      refine G.ishl H1 hx 40 (hb hby d8_39) rfl ?_
      refine G.iadd H1 hx 41 (hb hby d8_40) rfl ?_
      refine G.istoreNX H1 hx 42 #[.val (.int x0), .val (.int (f_len x0)), .val (.int ((((f_len x0) <<< ((16 : Int32) &&& 31)) + (x0 &&& (255 : Int32))) + (((XT.ushr x0 (8 : Int32)) &&& (255 : Int32)) <<< ((8 : Int32) &&& 31))))] (hb hby d8_41) rfl rfl ?_
      refine G.iloadN H1 hx 43 (hb hby d8_42) rfl rfl ?_
      exact Wk.retI W1 hx hret hlk (hb hby d8_43) (by decide) (by decide) ⟨(by simp only [f_key, if_neg c12_2, if_neg c25_4]), (by rw [eh1])⟩
def strL (x : Int32) : List Int32 := if f_len x = 0 then [] else if f_len x = 1 then [OwnKit.i2c (x &&& (255 : Int32))] else [OwnKit.i2c (x &&& (255 : Int32)), OwnKit.i2c ((XT.ushr x (8 : Int32)) &&& (255 : Int32))]
theorem own_key {x y : Int32} : f_key x = f_key y ↔ strL x = strL y := by
  have e : ∀ z, f_key z = kk (f_len z) (z &&& 255) ((XT.ushr z 8) &&& 255) := fun _ => rfl
  have s : ∀ z, strL z = mkL (f_len z) (z &&& 255) ((XT.ushr z 8) &&& 255) := fun z => by unfold strL mkL; rw [i2c_255, i2c_255]
  rw [e, e, s, s]; exact own_kk (m3 _) (m3 _) (m255 _) (m255 _) (m255 _) (m255 _)
def QMk (Z : State) (cz : Int32) (x0 : Int32) (h0 : Heap) : Option Value → Heap → Prop := fun v h => ∃ a : Addr, v = some (.ref a) ∧ h0.size ≤ a ∧ SV Z h a (strL x0)
set_option maxRecDepth 65536 in
set_option maxHeartbeats 40000000 in
theorem rmMk (l : Launch) (Z : State) (a0 : Array Value) (hw : ∀ d ∈ tables_1, d.before a0 Z = true) (cz : Int32) (x0 : Int32) (h0 : Heap) (O : Ext Z.heap h0) (hCS : Sta Z Z.heap "java/lang/String" "COMPACT_STRINGS" "Z" (.int cz)) (hcz : ¬ cz = 0) :
    CW [] l Z consts_1 (⟨"com/example/federation/federation/PropertyConditionEqualsPinLaw", "str", "(I)Ljava/lang/String;"⟩ : MethodName) method_4_code 4 (Option.some (Jvm.ClassFile.FieldType.object "java/lang/String")) ({ frames := 4, cells := 6, slots := 12, locals := 68 } : Room) #[(.int x0)] h0 [] (QMk Z cz x0 h0) := by
  refine CW.of_walk (plainFor_of_name pn1) O (fun _ q => nomatch q) ?_
  intro p e s m below meth c T0 W0 hsf hx hby hml hoZ hnm hret hlk
  have H0 := W0.here; have hz0 := W0.zsize; have hEL := elw hw
  refine Goes.cast (ef5 m x0) ?_
  refine G.iloadN H0 hx 1 (hb hby d2_0) rfl rfl ?_
  refine Wk.callS W0 hx hoZ (y := (⟨"com/example/federation/federation/PropertyConditionEqualsPinLaw", "len", "(I)I"⟩ : MethodName)) (wd hw 10 rfl) (wd hw 11 rfl) (wd hw 2 rfl) (wd hw 12 rfl) (by decide) (Wd := 0) (CN.back (rmlen l Z a0 hw x0 h0 W0.old ) W0.warm (wd hw 12 rfl) (wd hw 2 rfl) (by decide) (by decide)) (by rw [hml]; rfl) [(.int x0)] [] (lenOf pd1 rfl) rfl rfl (Nat.le_of_eq rfl) 4 (hb hby d2_1) rfl (by decide) (by decide) (fun _ q => nomatch q) ?_
  intro v1 T1 h1 W1 K1 Ch1 Q1
  have H1 := W1.here; have z1 := K1.1
  obtain ⟨rfl, eh1⟩ := Q1
  show Goes p e below (PostW s Z consts_1 h0 [] (QMk Z cz x0 h0) ({ frames := 4, cells := 6, slots := 12, locals := 68 } : Room).cells ({ frames := 4, cells := 6, slots := 12, locals := 68 } : Room).slots) (T1.setTop (mkF m 4 #[.val (.int x0), .unset, .unset, .unset] [(.int (f_len x0))]))
  refine G.istoreN H1 hx 5 (fun v => #[.val (.int x0), .val (.int v), .unset, .unset]) (hb hby d2_4) (fun _ => rfl) rfl ?_
  intro v2 hv2
  refine G.iloadN H1 hx 6 (hb hby d2_5) rfl rfl ?_
  refine G.sipush H1 hx 9 (255 : Int32) (hb hby d2_6) rfl rfl ?_
  refine G.iand H1 hx 10 (hb hby d2_9) rfl ?_
  refine G.i2c H1 hx 11 (hb hby d2_10) rfl ?_
  refine G.istoreN H1 hx 12 (fun v => #[.val (.int x0), .val (.int v2), .val (.int v), .unset]) (hb hby d2_11) (fun _ => rfl) rfl ?_
  intro v3 hv3
  refine G.iloadN H1 hx 13 (hb hby d2_12) rfl rfl ?_
  refine G.bipush H1 hx 15 (8 : Int32) (hb hby d2_13) rfl rfl ?_
  refine G.iushr H1 hx 16 (hb hby d2_15) rfl ?_
  refine G.sipush H1 hx 19 (255 : Int32) (hb hby d2_16) rfl rfl ?_
  refine G.iand H1 hx 20 (hb hby d2_19) rfl ?_
  refine G.i2c H1 hx 21 (hb hby d2_20) rfl ?_
  refine G.istoreN H1 hx 22 (fun v => #[.val (.int x0), .val (.int v2), .val (.int v3), .val (.int v)]) (hb hby d2_21) (fun _ => rfl) rfl ?_
  intro v4 hv4
  refine G.iloadN H1 hx 23 (hb hby d2_22) rfl rfl ?_
  by_cases c23_5 : v2 = 0
  ·
    refine G.ifN H1 hx 26 (hb hby d2_23) (zeq c23_5).2 rfl ?_
    refine Wk.newO W1 hx hoZ (wd hw 13 rfl) (wd hw 14 rfl) (wd hw 15 rfl) 29 (hb hby d2_26) rfl (by decide) (by decide) ?_
    intro T6 h6 a6 W6 E6 g6 A6 D6 S6
    have H6 := W6.here; have z6 := E6.1; have gu6 := Nat.le_of_eq g6; have gt6 := Nat.le_of_eq g6.symm; have l6 := ltN A6.lt
    refine G.dup H6 hx 30 (hb hby d2_29) rfl rfl ?_
    refine G.iconst H6 hx 31 (0 : Int32) (hb hby d2_30) rfl rfl ?_
    refine Wk.newP W6 hx (wd hw 16 rfl) 33 (hb hby d2_31) (by decide) 0 (by decide) rfl (by decide) (by decide) (by decide) ?_
    intro T7 h7 a7 k7 W7 E7 g7 V7 S7
    have H7 := W7.here; have z7 := E7.1; have gu7 := Nat.le_of_eq g7; have gt7 := Nat.le_of_eq g7.symm; have l7 := ltN V7.lt
    have V7 : Arv Z h7 a7 k7 .char (0 : Int32) [] (.int (0 : Int32)) := V7
    refine Wk.specialW W7 hx hoZ (y := (⟨"java/lang/String", "<init>", "([C)V"⟩ : MethodName)) rfl (wd hw 17 rfl) (wd hw 18 rfl) (wd hw 19 rfl) (by decide) (Wd := 1) (CW.back (rmEm1 l Z a0 hw a6 a7 k7 h7 W7.old (by omega) (A6.ext E7) ((D6 (Or.inr (wd hw 29 rfl)) (ty := (.array .byte)) (by decide)).ext E7) ((D6 (Or.inr (wd hw 30 rfl)) (ty := .byte) (by decide)).ext E7) V7) W7.warm (wd hw 19 rfl) (wd hw 15 rfl) (by decide) (by decide) hEL W7.ch (all1 (by omega)) (ala ((CHr.ext E7 W6.ch).safe (ltA (by omega)) S6) ala0)) a6 (by rw [hml]; rfl) [(.ref a7)] [(.ref a6)] (lenOf pd2 rfl) rfl rfl (Nat.le_of_eq rfl) 36 (hb hby d2_33) rfl (by decide) (by decide) (hws1 (Or.inr (by omega)) ((CHr.ext E7 W6.ch).safe (ltA (by omega)) S6)) ?_
    intro v8 vm8 T8 h8 W8 K8 Ch8 Q8
    have H8 := W8.here; have z8 := K8.1
    obtain ⟨rfl, Sv8⟩ := Q8
    show Goes p e below (PostW s Z consts_1 h0 [] (QMk Z cz x0 h0) ({ frames := 4, cells := 6, slots := 12, locals := 68 } : Room).cells ({ frames := 4, cells := 6, slots := 12, locals := 68 } : Room).slots) (T8.setTop (mkF m 36 #[.val (.int x0), .val (.int v2), .val (.int v3), .val (.int v4)] [(.ref a6)]))
    exact Wk.retAW W8 hx hEL (t := (.object "java/lang/String")) rfl rfl hret hlk (hb hby d2_36) (by decide) (by decide) ⟨_, rfl, by omega, by have q := Sv8; simp only [strL, ← hv2, ← hv3, ← hv4]; simpa [c23_5] using q⟩
  ·
    refine G.ifY H1 hx 37 (hb hby d2_23) (zne c23_5).2 (by decide) rfl ?_
    refine G.iloadN H1 hx 38 (hb hby d2_37) rfl rfl ?_
    refine G.iconst H1 hx 39 (1 : Int32) (hb hby d2_38) rfl rfl ?_
    by_cases c39_9 : v2 = (1 : Int32)
    ·
      refine G.icmpN H1 hx 42 (hb hby d2_39) (teq c39_9).2 rfl ?_
      refine Wk.newO W1 hx hoZ (wd hw 13 rfl) (wd hw 14 rfl) (wd hw 15 rfl) 45 (hb hby d2_42) rfl (by decide) (by decide) ?_
      intro T10 h10 a10 W10 E10 g10 A10 D10 S10
      have H10 := W10.here; have z10 := E10.1; have gu10 := Nat.le_of_eq g10; have gt10 := Nat.le_of_eq g10.symm; have l10 := ltN A10.lt
      refine G.dup H10 hx 46 (hb hby d2_45) rfl rfl ?_
      refine G.iconst H10 hx 47 (1 : Int32) (hb hby d2_46) rfl rfl ?_
      refine Wk.newP W10 hx (wd hw 16 rfl) 49 (hb hby d2_47) (by decide) 1 (by decide) rfl (by decide) (by decide) (by decide) ?_
      intro T11 h11 a11 k11 W11 E11 g11 V11 S11
      have H11 := W11.here; have z11 := E11.1; have gu11 := Nat.le_of_eq g11; have gt11 := Nat.le_of_eq g11.symm; have l11 := ltN V11.lt
      have V11 : Arv Z h11 a11 k11 .char (1 : Int32) [(.int (0 : Int32))] (.int (0 : Int32)) := V11
      refine G.dup H11 hx 50 (hb hby d2_49) rfl rfl ?_
      refine G.iconst H11 hx 51 (0 : Int32) (hb hby d2_50) rfl rfl ?_
      refine G.iloadN H11 hx 52 (hb hby d2_51) rfl rfl ?_
      refine Wk.castore W11 hx V11 (Or.inr (by omega)) v3 (nar_c16 (own_n hv3).up) 0 rfl ⟨by decide, by decide⟩ (Nat.le_of_ble_eq_true rfl) 53 (hb hby d2_52) rfl ?_
      intro T12 h12 W12 K12 Ch12 V12; have H12 := W12.here; have z12 := K12.1
      have V12 : Arv Z h12 a11 k11 .char (1 : Int32) [(.int v3)] (.int (0 : Int32)) := V12
      refine Wk.special W12 hx hoZ (y := (⟨"java/lang/String", "<init>", "([C)V"⟩ : MethodName)) rfl (wd hw 17 rfl) (wd hw 18 rfl) (wd hw 19 rfl) (by decide) (Wd := 1) (newS W12.warm (wsNew hw) (wd hw 14 rfl) W12.old (by omega) ((A10.ext E11).keep K12) (((D10 (Or.inr (wd hw 29 rfl)) (ty := (.array .byte)) (by decide)).ext E11).keep K12 (ninS (neA (by omega)) nin0)) (((D10 (Or.inr (wd hw 30 rfl)) (ty := .byte) (by decide)).ext E11).keep K12 (ninS (neA (by omega)) nin0)) (cs := [v3]) V12 hCS hcz 1 rfl rfl (by decide) (by decide) (ala (own_n hv3) (ala0)) (by decide) (by decide)) a10 (by rw [hml]; rfl) [(.ref a11)] [(.ref a10)] (lenOf pd2 rfl) rfl rfl (Nat.le_of_eq rfl) 56 (hb hby d2_53) rfl (by decide) (by decide) (hws1 (Or.inr (by omega)) (Ch12.safe (ltA (by omega)) ((CHr.ext E11 W10.ch).safe (ltA (by omega)) S10))) ?_
      intro v13 T13 h13 W13 K13 Ch13 Q13
      have H13 := W13.here; have z13 := K13.1
      obtain ⟨rfl, Sv13⟩ := Q13
      show Goes p e below (PostW s Z consts_1 h0 [] (QMk Z cz x0 h0) ({ frames := 4, cells := 6, slots := 12, locals := 68 } : Room).cells ({ frames := 4, cells := 6, slots := 12, locals := 68 } : Room).slots) (T13.setTop (mkF m 56 #[.val (.int x0), .val (.int v2), .val (.int v3), .val (.int v4)] [(.ref a10)]))
      exact Wk.retAW W13 hx hEL (t := (.object "java/lang/String")) rfl rfl hret hlk (hb hby d2_56) (by decide) (by decide) ⟨_, rfl, by omega, by have q := Sv13; simp only [strL, ← hv2, ← hv3, ← hv4]; simpa [c23_5, c39_9] using q⟩
    ·
      refine G.icmpY H1 hx 57 (hb hby d2_39) (feq c39_9).2 (by decide) rfl ?_
      refine Wk.newO W1 hx hoZ (wd hw 13 rfl) (wd hw 14 rfl) (wd hw 15 rfl) 60 (hb hby d2_57) rfl (by decide) (by decide) ?_
      intro T14 h14 a14 W14 E14 g14 A14 D14 S14
      have H14 := W14.here; have z14 := E14.1; have gu14 := Nat.le_of_eq g14; have gt14 := Nat.le_of_eq g14.symm; have l14 := ltN A14.lt
      refine G.dup H14 hx 61 (hb hby d2_60) rfl rfl ?_
      refine G.iconst H14 hx 62 (2 : Int32) (hb hby d2_61) rfl rfl ?_
      refine Wk.newP W14 hx (wd hw 16 rfl) 64 (hb hby d2_62) (by decide) 2 (by decide) rfl (by decide) (by decide) (by decide) ?_
      intro T15 h15 a15 k15 W15 E15 g15 V15 S15
      have H15 := W15.here; have z15 := E15.1; have gu15 := Nat.le_of_eq g15; have gt15 := Nat.le_of_eq g15.symm; have l15 := ltN V15.lt
      have V15 : Arv Z h15 a15 k15 .char (2 : Int32) [(.int (0 : Int32)), (.int (0 : Int32))] (.int (0 : Int32)) := V15
      refine G.dup H15 hx 65 (hb hby d2_64) rfl rfl ?_
      refine G.iconst H15 hx 66 (0 : Int32) (hb hby d2_65) rfl rfl ?_
      refine G.iloadN H15 hx 67 (hb hby d2_66) rfl rfl ?_
      refine Wk.castore W15 hx V15 (Or.inr (by omega)) v3 (nar_c16 (own_n hv3).up) 0 rfl ⟨by decide, by decide⟩ (Nat.le_of_ble_eq_true rfl) 68 (hb hby d2_67) rfl ?_
      intro T16 h16 W16 K16 Ch16 V16; have H16 := W16.here; have z16 := K16.1
      have V16 : Arv Z h16 a15 k15 .char (2 : Int32) [(.int v3), (.int (0 : Int32))] (.int (0 : Int32)) := V16
      refine G.dup H16 hx 69 (hb hby d2_68) rfl rfl ?_
      refine G.iconst H16 hx 70 (1 : Int32) (hb hby d2_69) rfl rfl ?_
      refine G.iloadN H16 hx 71 (hb hby d2_70) rfl rfl ?_
      refine Wk.castore W16 hx V16 (Or.inr (by omega)) v4 (nar_c16 (own_n hv4).up) 1 rfl ⟨by decide, by decide⟩ (Nat.le_of_ble_eq_true rfl) 72 (hb hby d2_71) rfl ?_
      intro T17 h17 W17 K17 Ch17 V17; have H17 := W17.here; have z17 := K17.1
      have V17 : Arv Z h17 a15 k15 .char (2 : Int32) [(.int v3), (.int v4)] (.int (0 : Int32)) := V17
      refine Wk.special W17 hx hoZ (y := (⟨"java/lang/String", "<init>", "([C)V"⟩ : MethodName)) rfl (wd hw 17 rfl) (wd hw 18 rfl) (wd hw 19 rfl) (by decide) (Wd := 1) (newS W17.warm (wsNew hw) (wd hw 14 rfl) W17.old (by omega) (((A14.ext E15).keep K16).keep K17) ((((D14 (Or.inr (wd hw 29 rfl)) (ty := (.array .byte)) (by decide)).ext E15).keep K16 (ninS (neA (by omega)) nin0)).keep K17 (ninS (neA (by omega)) nin0)) ((((D14 (Or.inr (wd hw 30 rfl)) (ty := .byte) (by decide)).ext E15).keep K16 (ninS (neA (by omega)) nin0)).keep K17 (ninS (neA (by omega)) nin0)) (cs := [v3, v4]) V17 hCS hcz 2 rfl rfl (by decide) (by decide) (ala (own_n hv3) (ala (own_n hv4) (ala0))) (by decide) (by decide)) a14 (by rw [hml]; rfl) [(.ref a15)] [(.ref a14)] (lenOf pd2 rfl) rfl rfl (Nat.le_of_eq rfl) 75 (hb hby d2_72) rfl (by decide) (by decide) (hws1 (Or.inr (by omega)) (Ch17.safe (ltA (by omega)) (Ch16.safe (ltA (by omega)) ((CHr.ext E15 W14.ch).safe (ltA (by omega)) S14)))) ?_
      intro v18 T18 h18 W18 K18 Ch18 Q18
      have H18 := W18.here; have z18 := K18.1
      obtain ⟨rfl, Sv18⟩ := Q18
      show Goes p e below (PostW s Z consts_1 h0 [] (QMk Z cz x0 h0) ({ frames := 4, cells := 6, slots := 12, locals := 68 } : Room).cells ({ frames := 4, cells := 6, slots := 12, locals := 68 } : Room).slots) (T18.setTop (mkF m 75 #[.val (.int x0), .val (.int v2), .val (.int v3), .val (.int v4)] [(.ref a14)]))
      exact Wk.retAW W18 hx hEL (t := (.object "java/lang/String")) rfl rfl hret hlk (hb hby d2_75) (by decide) (by decide) ⟨_, rfl, by omega, by have q := Sv18; simp only [strL, ← hv2, ← hv3, ← hv4]; simpa [c23_5, c39_9] using q⟩
def QPin (Z : State) (a : Addr) (x0 : Value) (x1 : Value) (h0 : Heap) : Option Value → Heap → Prop := fun v h => v = none ∧ Exa Z h a "com/example/federation/federation/PropertyCondition" ∧ Fld Z h a "com/example/federation/federation/PropertyCondition" "left" "Ljava/lang/String;" x0 ∧ Fld Z h a "com/example/federation/federation/PropertyCondition" "right" "Ljava/lang/String;" x1
set_option maxRecDepth 65536 in
set_option maxHeartbeats 40000000 in
theorem rmPin (l : Launch) (Z : State) (a0 : Array Value) (hw : ∀ d ∈ tables_1, d.before a0 Z = true) (a : Addr) (x0 : Value) (x1 : Value) (h0 : Heap) (O : Ext Z.heap h0) (gz_a : Z.heap.size ≤ a) (Ea : Exa Z h0 a "com/example/federation/federation/PropertyCondition") (hr0 : x0.isRef = true) (hr1 : x1.isRef = true) (F_left : Fld Z h0 a "com/example/federation/federation/PropertyCondition" "left" "Ljava/lang/String;" .null) (F_right : Fld Z h0 a "com/example/federation/federation/PropertyCondition" "right" "Ljava/lang/String;" .null) :
    CN [] l Z (⟨"com/example/federation/federation/PropertyCondition", "<init>", "(Ljava/lang/String;Ljava/lang/String;)V"⟩ : MethodName) prog_40_method_1_code 3 (Option.none : Option Jvm.ClassFile.FieldType) ({ frames := 2, cells := 0, slots := 0, locals := 30 } : Room) #[(.ref a), x0, x1] h0 [a] (QPin Z a x0 x1 h0) := by
  refine CN.of_walk (plainFor_of_name pn2) O (ala gz_a ala0) ?_
  intro p e s m below meth c T0 W0 hx hby hml hoZ hnm hret hlk
  have H0 := W0.here; have hz0 := W0.zsize
  refine Goes.cast (ef6 m a x0 (cat_ref hr0) x1 (cat_ref hr1)) ?_
  refine G.aloadN H0 hx 1 (hb hby d7_0) rfl rfl rfl ?_
  refine Wk.initO W0 hx hoZ (wd hw 38 rfl) (wd hw 25 rfl) (wd hw 26 rfl) (by rw [hml]; rfl) 4 (hb hby d7_1) rfl (by decide) 0 (Nat.le_of_eq rfl) (by decide) ?_
  intro T1 W1; have H1 := W1.here
  refine G.aloadN H1 hx 5 (hb hby d7_4) rfl rfl rfl ?_
  refine G.aloadN H1 hx 6 (hb hby d7_5) rfl hr0 rfl ?_
  refine Wk.putF W1 hx hoZ (wd hw 39 rfl) Via.refl x0 F_left Ea (Or.inr ⟨(wd hw 40 rfl), rfl, hnm⟩) (wd hw 5 rfl) (ty := (.object "java/lang/String")) (by decide) (ref_nar rfl hr0).1 (ref_nar rfl hr0).2 (Or.inl (by simp)) safe0 9 (hb hby d7_6) rfl ?_
  intro T2 h2 W2 R2 Ch2; have H2 := W2.here; have z2 := R2.size
  have F2 := (F_left).same R2
  refine G.aloadN H2 hx 10 (hb hby d7_9) rfl rfl rfl ?_
  refine G.aloadN H2 hx 11 (hb hby d7_10) rfl hr1 rfl ?_
  refine Wk.putF W2 hx hoZ (wd hw 41 rfl) Via.refl x1 (F_right.other R2 (Or.inr (slot_ne (Or.inr (wd hw 42 rfl)) (Or.inr (wd hw 40 rfl)) (by decide) (t := (.object "java/lang/String")) (t' := (.object "java/lang/String")) (by decide) (by decide)))) (Ea.wr R2) (Or.inr ⟨(wd hw 42 rfl), rfl, hnm⟩) (wd hw 5 rfl) (ty := (.object "java/lang/String")) (by decide) (ref_nar rfl hr1).1 (ref_nar rfl hr1).2 (Or.inl (by simp)) safe0 14 (hb hby d7_11) rfl ?_
  intro T3 h3 W3 R3 Ch3; have H3 := W3.here; have z3 := R3.size
  have F3 := ((F_right.other R2 (Or.inr (slot_ne (Or.inr (wd hw 42 rfl)) (Or.inr (wd hw 40 rfl)) (by decide) (t := (.object "java/lang/String")) (t' := (.object "java/lang/String")) (by decide) (by decide))))).same R3
  exact Wk.retV W3 hx hret hlk (hb hby d7_14) (by decide) (by decide) ⟨rfl, ((Ea.wr R2).wr R3), (F2.other R3 (Or.inr (slot_ne (Or.inr (wd hw 40 rfl)) (Or.inr (wd hw 42 rfl)) (by decide) (t := (.object "java/lang/String")) (t' := (.object "java/lang/String")) (by decide) (by decide)))), F3⟩
def QEqP (Z : State) (cz : Int32) (a : Addr) (b : Addr) (al : Addr) (ar : Addr) (bl : Addr) (br : Addr) (aL : List Int32) (aR : List Int32) (bL : List Int32) (bR : List Int32) (h0 : Heap) : Option Value → Heap → Prop := fun v h => v = some (.int (if (aL = bL ∧ aR = bR) ∨ (aL = bR ∧ aR = bL) then (1 : Int32) else (0 : Int32)))
set_option maxRecDepth 65536 in
set_option maxHeartbeats 40000000 in
theorem rmEqP (l : Launch) (Z : State) (a0 : Array Value) (hw : ∀ d ∈ tables_1, d.before a0 Z = true) (cz : Int32) (a : Addr) (b : Addr) (al : Addr) (ar : Addr) (bl : Addr) (br : Addr) (aL : List Int32) (aR : List Int32) (bL : List Int32) (bR : List Int32) (h0 : Heap) (O : Ext Z.heap h0) (hCS : Sta Z Z.heap "java/lang/String" "COMPACT_STRINGS" "Z" (.int cz)) (hcz : ¬ cz = 0) (Ea : Exa Z h0 a "com/example/federation/federation/PropertyCondition") (Fal : Fld Z h0 a "com/example/federation/federation/PropertyCondition" "left" "Ljava/lang/String;" (.ref al)) (Far : Fld Z h0 a "com/example/federation/federation/PropertyCondition" "right" "Ljava/lang/String;" (.ref ar)) (Sal : SV Z h0 al aL) (Sar : SV Z h0 ar aR) (Eb : Exa Z h0 b "com/example/federation/federation/PropertyCondition") (Fbl : Fld Z h0 b "com/example/federation/federation/PropertyCondition" "left" "Ljava/lang/String;" (.ref bl)) (Fbr : Fld Z h0 b "com/example/federation/federation/PropertyCondition" "right" "Ljava/lang/String;" (.ref br)) (Sbl : SV Z h0 bl bL) (Sbr : SV Z h0 br bR) :
    CN [] l Z (⟨"com/example/federation/federation/PropertyCondition", "equals", "(Ljava/lang/Object;)Z"⟩ : MethodName) prog_40_method_6_code 3 (Option.some Jvm.ClassFile.FieldType.boolean) ({ frames := 3, cells := 0, slots := 0, locals := 45 } : Room) #[(.ref a), (.ref b)] h0 [] (QEqP Z cz a b al ar bl br aL aR bL bR h0) := by
  refine CN.of_walk (plainFor_of_name pn2) O (fun _ q => nomatch q) ?_
  intro p e s m below meth c T0 W0 hx hby hml hoZ hnm hret hlk
  have H0 := W0.here; have hz0 := W0.zsize
  refine Goes.cast (ef7 m a b) ?_
  refine G.aloadN H0 hx 1 (hb hby d9_0) rfl rfl rfl ?_
  refine Wk.instY W0 hx hoZ (wd hw 51 rfl) (Ins.self Eb) 4 (hb hby d9_1) rfl ?_
  intro T1 W1; have H1 := W1.here
  refine G.ifN H1 hx 7 (hb hby d9_4) (zne (by decide)).1 rfl ?_
  refine G.aloadN H1 hx 8 (hb hby d9_7) rfl rfl rfl ?_
  refine Wk.castY W1 hx hoZ (wd hw 51 rfl) (Ins.self Eb) 11 (hb hby d9_8) rfl ?_
  intro T2 W2; have H2 := W2.here
  refine G.astoreN H2 hx 12 #[.val (.ref a), .val (.ref b), .val (.ref b)] (hb hby d9_11) rfl rfl rfl ?_
  refine G.goto H2 hx 17 (hb hby d9_12) (by decide) rfl ?_
  refine G.aloadN H2 hx 18 (hb hby d9_17) rfl rfl rfl ?_
  refine Wk.getF W2 hx hoZ (host := "") (Or.inl (wd hw 39 rfl)) Via.refl Fal 21 (hb hby d9_18) rfl ?_
  intro T3 W3; have H3 := W3.here
  refine G.aloadN H3 hx 22 (hb hby d9_21) rfl rfl rfl ?_
  refine Wk.getF W3 hx hoZ (host := "") (Or.inl (wd hw 39 rfl)) Via.refl Fbl 25 (hb hby d9_22) rfl ?_
  intro T4 W4; have H4 := W4.here
  refine Wk.virtual W4 hx hoZ (y := (⟨"java/lang/String", "equals", "(Ljava/lang/Object;)Z"⟩ : MethodName)) (z := (⟨"java/lang/String", "equals", "(Ljava/lang/Object;)Z"⟩ : MethodName)) (wd hw 53 rfl) (wd hw 54 rfl) (wd hw 56 rfl) (wd hw 55 rfl) (W4.nf (wd hw 56 rfl)) (by decide) (Wd := 0) (eqS W4.warm (wsEq hw) (wd hw 14 rfl) W4.old Sal Sbl hCS hcz (by decide) (by decide)) Sal.exa (by rw [hml]; rfl) [(.ref bl)] [] (lenOf pd3 rfl) rfl rfl (Nat.le_of_eq rfl) 28 (hb hby d9_25) rfl (by decide) (by decide) (fun _ q => nomatch q) ?_
  intro v5 T5 h5 W5 K5 Ch5 Q5
  have H5 := W5.here; have z5 := K5.1
  obtain ⟨rfl, eh5⟩ := Q5
  show Goes p e below (PostN s Z h0 [] (QEqP Z cz a b al ar bl br aL aR bL bR h0) ({ frames := 3, cells := 0, slots := 0, locals := 45 } : Room).cells ({ frames := 3, cells := 0, slots := 0, locals := 45 } : Room).slots) (T5.setTop (mkF m 28 #[.val (.ref a), .val (.ref b), .val (.ref b)] [(.int (if aL = bL then (1 : Int32) else (0 : Int32)))]))
  by_cases c28_6 : (if aL = bL then (1 : Int32) else (0 : Int32)) = 0
  ·
    refine G.ifY H5 hx 45 (hb hby d9_28) (zeq c28_6).1 (by decide) rfl ?_
    refine G.aloadN H5 hx 46 (hb hby d9_45) rfl rfl rfl ?_
    refine Wk.getF W5 hx hoZ (host := "") (Or.inl (wd hw 39 rfl)) Via.refl (Fal.keep K5 nin0) 49 (hb hby d9_46) rfl ?_
    intro T7 W7; have H7 := W7.here
    refine G.aloadN H7 hx 50 (hb hby d9_49) rfl rfl rfl ?_
    refine Wk.getF W7 hx hoZ (host := "") (Or.inl (wd hw 41 rfl)) Via.refl (Fbr.keep K5 nin0) 53 (hb hby d9_50) rfl ?_
    intro T8 W8; have H8 := W8.here
    refine Wk.virtual W8 hx hoZ (y := (⟨"java/lang/String", "equals", "(Ljava/lang/Object;)Z"⟩ : MethodName)) (z := (⟨"java/lang/String", "equals", "(Ljava/lang/Object;)Z"⟩ : MethodName)) (wd hw 53 rfl) (wd hw 54 rfl) (wd hw 56 rfl) (wd hw 55 rfl) (W8.nf (wd hw 56 rfl)) (by decide) (Wd := 0) (eqS W8.warm (wsEq hw) (wd hw 14 rfl) W8.old (Sal.keepX K5 ala0) (Sbr.keepX K5 ala0) hCS hcz (by decide) (by decide)) (Sal.exa.keep K5) (by rw [hml]; rfl) [(.ref br)] [] (lenOf pd3 rfl) rfl rfl (Nat.le_of_eq rfl) 56 (hb hby d9_53) rfl (by decide) (by decide) (fun _ q => nomatch q) ?_
    intro v9 T9 h9 W9 K9 Ch9 Q9
    have H9 := W9.here; have z9 := K9.1
    obtain ⟨rfl, eh9⟩ := Q9
    show Goes p e below (PostN s Z h0 [] (QEqP Z cz a b al ar bl br aL aR bL bR h0) ({ frames := 3, cells := 0, slots := 0, locals := 45 } : Room).cells ({ frames := 3, cells := 0, slots := 0, locals := 45 } : Room).slots) (T9.setTop (mkF m 56 #[.val (.ref a), .val (.ref b), .val (.ref b)] [(.int (if aL = bR then (1 : Int32) else (0 : Int32)))]))
    by_cases c56_10 : (if aL = bR then (1 : Int32) else (0 : Int32)) = 0
    ·
      refine G.ifY H9 hx 77 (hb hby d9_56) (zeq c56_10).1 (by decide) rfl ?_
      refine G.iconst H9 hx 78 (0 : Int32) (hb hby d9_77) rfl rfl ?_
      exact Wk.retN W9 hx (0 : Int32) (t := .boolean) rfl (by simp) hret hlk (hb hby d9_78) (by decide) (by decide) (by unfold QEqP; simp only [own_i01, Classical.not_not] at c28_6 c56_10; rw [if_neg (by intro q; rcases q with ⟨q1, q2⟩ | ⟨q1, q2⟩ <;> contradiction)])
    ·
      refine G.ifN H9 hx 59 (hb hby d9_56) (zne c56_10).1 rfl ?_
      refine G.aloadN H9 hx 60 (hb hby d9_59) rfl rfl rfl ?_
      refine Wk.getF W9 hx hoZ (host := "") (Or.inl (wd hw 41 rfl)) Via.refl ((Far.keep K5 nin0).keep K9 nin0) 63 (hb hby d9_60) rfl ?_
      intro T11 W11; have H11 := W11.here
      refine G.aloadN H11 hx 64 (hb hby d9_63) rfl rfl rfl ?_
      refine Wk.getF W11 hx hoZ (host := "") (Or.inl (wd hw 39 rfl)) Via.refl ((Fbl.keep K5 nin0).keep K9 nin0) 67 (hb hby d9_64) rfl ?_
      intro T12 W12; have H12 := W12.here
      refine Wk.virtual W12 hx hoZ (y := (⟨"java/lang/String", "equals", "(Ljava/lang/Object;)Z"⟩ : MethodName)) (z := (⟨"java/lang/String", "equals", "(Ljava/lang/Object;)Z"⟩ : MethodName)) (wd hw 53 rfl) (wd hw 54 rfl) (wd hw 56 rfl) (wd hw 55 rfl) (W12.nf (wd hw 56 rfl)) (by decide) (Wd := 0) (eqS W12.warm (wsEq hw) (wd hw 14 rfl) W12.old ((Sar.keepX K5 ala0).keepX K9 ala0) ((Sbl.keepX K5 ala0).keepX K9 ala0) hCS hcz (by decide) (by decide)) ((Sar.exa.keep K5).keep K9) (by rw [hml]; rfl) [(.ref bl)] [] (lenOf pd3 rfl) rfl rfl (Nat.le_of_eq rfl) 70 (hb hby d9_67) rfl (by decide) (by decide) (fun _ q => nomatch q) ?_
      intro v13 T13 h13 W13 K13 Ch13 Q13
      have H13 := W13.here; have z13 := K13.1
      obtain ⟨rfl, eh13⟩ := Q13
      show Goes p e below (PostN s Z h0 [] (QEqP Z cz a b al ar bl br aL aR bL bR h0) ({ frames := 3, cells := 0, slots := 0, locals := 45 } : Room).cells ({ frames := 3, cells := 0, slots := 0, locals := 45 } : Room).slots) (T13.setTop (mkF m 70 #[.val (.ref a), .val (.ref b), .val (.ref b)] [(.int (if aR = bL then (1 : Int32) else (0 : Int32)))]))
      by_cases c70_14 : (if aR = bL then (1 : Int32) else (0 : Int32)) = 0
      ·
        refine G.ifY H13 hx 77 (hb hby d9_70) (zeq c70_14).1 (by decide) rfl ?_
        refine G.iconst H13 hx 78 (0 : Int32) (hb hby d9_77) rfl rfl ?_
        exact Wk.retN W13 hx (0 : Int32) (t := .boolean) rfl (by simp) hret hlk (hb hby d9_78) (by decide) (by decide) (by unfold QEqP; simp only [own_i01, Classical.not_not] at c28_6 c56_10 c70_14; rw [if_neg (by intro q; rcases q with ⟨q1, q2⟩ | ⟨q1, q2⟩ <;> contradiction)])
      ·
        refine G.ifN H13 hx 73 (hb hby d9_70) (zne c70_14).1 rfl ?_
        refine G.iconst H13 hx 74 (1 : Int32) (hb hby d9_73) rfl rfl ?_
        refine G.goto H13 hx 78 (hb hby d9_74) (by decide) rfl ?_
        exact Wk.retN W13 hx (1 : Int32) (t := .boolean) rfl (by simp) hret hlk (hb hby d9_78) (by decide) (by decide) (by unfold QEqP; simp only [own_i01, Classical.not_not] at c28_6 c56_10 c70_14; rw [if_pos (by first | exact Or.inl ⟨by assumption, by assumption⟩ | exact Or.inr ⟨by assumption, by assumption⟩)])
  ·
    refine G.ifN H5 hx 31 (hb hby d9_28) (zne c28_6).1 rfl ?_
    refine G.aloadN H5 hx 32 (hb hby d9_31) rfl rfl rfl ?_
    refine Wk.getF W5 hx hoZ (host := "") (Or.inl (wd hw 41 rfl)) Via.refl (Far.keep K5 nin0) 35 (hb hby d9_32) rfl ?_
    intro T15 W15; have H15 := W15.here
    refine G.aloadN H15 hx 36 (hb hby d9_35) rfl rfl rfl ?_
    refine Wk.getF W15 hx hoZ (host := "") (Or.inl (wd hw 41 rfl)) Via.refl (Fbr.keep K5 nin0) 39 (hb hby d9_36) rfl ?_
    intro T16 W16; have H16 := W16.here
    refine Wk.virtual W16 hx hoZ (y := (⟨"java/lang/String", "equals", "(Ljava/lang/Object;)Z"⟩ : MethodName)) (z := (⟨"java/lang/String", "equals", "(Ljava/lang/Object;)Z"⟩ : MethodName)) (wd hw 53 rfl) (wd hw 54 rfl) (wd hw 56 rfl) (wd hw 55 rfl) (W16.nf (wd hw 56 rfl)) (by decide) (Wd := 0) (eqS W16.warm (wsEq hw) (wd hw 14 rfl) W16.old (Sar.keepX K5 ala0) (Sbr.keepX K5 ala0) hCS hcz (by decide) (by decide)) (Sar.exa.keep K5) (by rw [hml]; rfl) [(.ref br)] [] (lenOf pd3 rfl) rfl rfl (Nat.le_of_eq rfl) 42 (hb hby d9_39) rfl (by decide) (by decide) (fun _ q => nomatch q) ?_
    intro v17 T17 h17 W17 K17 Ch17 Q17
    have H17 := W17.here; have z17 := K17.1
    obtain ⟨rfl, eh17⟩ := Q17
    show Goes p e below (PostN s Z h0 [] (QEqP Z cz a b al ar bl br aL aR bL bR h0) ({ frames := 3, cells := 0, slots := 0, locals := 45 } : Room).cells ({ frames := 3, cells := 0, slots := 0, locals := 45 } : Room).slots) (T17.setTop (mkF m 42 #[.val (.ref a), .val (.ref b), .val (.ref b)] [(.int (if aR = bR then (1 : Int32) else (0 : Int32)))]))
    by_cases c42_18 : (if aR = bR then (1 : Int32) else (0 : Int32)) = 0
    ·
      refine G.ifN H17 hx 45 (hb hby d9_42) (zeq c42_18).2 rfl ?_
      refine G.aloadN H17 hx 46 (hb hby d9_45) rfl rfl rfl ?_
      refine Wk.getF W17 hx hoZ (host := "") (Or.inl (wd hw 39 rfl)) Via.refl ((Fal.keep K5 nin0).keep K17 nin0) 49 (hb hby d9_46) rfl ?_
      intro T19 W19; have H19 := W19.here
      refine G.aloadN H19 hx 50 (hb hby d9_49) rfl rfl rfl ?_
      refine Wk.getF W19 hx hoZ (host := "") (Or.inl (wd hw 41 rfl)) Via.refl ((Fbr.keep K5 nin0).keep K17 nin0) 53 (hb hby d9_50) rfl ?_
      intro T20 W20; have H20 := W20.here
      refine Wk.virtual W20 hx hoZ (y := (⟨"java/lang/String", "equals", "(Ljava/lang/Object;)Z"⟩ : MethodName)) (z := (⟨"java/lang/String", "equals", "(Ljava/lang/Object;)Z"⟩ : MethodName)) (wd hw 53 rfl) (wd hw 54 rfl) (wd hw 56 rfl) (wd hw 55 rfl) (W20.nf (wd hw 56 rfl)) (by decide) (Wd := 0) (eqS W20.warm (wsEq hw) (wd hw 14 rfl) W20.old ((Sal.keepX K5 ala0).keepX K17 ala0) ((Sbr.keepX K5 ala0).keepX K17 ala0) hCS hcz (by decide) (by decide)) ((Sal.exa.keep K5).keep K17) (by rw [hml]; rfl) [(.ref br)] [] (lenOf pd3 rfl) rfl rfl (Nat.le_of_eq rfl) 56 (hb hby d9_53) rfl (by decide) (by decide) (fun _ q => nomatch q) ?_
      intro v21 T21 h21 W21 K21 Ch21 Q21
      have H21 := W21.here; have z21 := K21.1
      obtain ⟨rfl, eh21⟩ := Q21
      show Goes p e below (PostN s Z h0 [] (QEqP Z cz a b al ar bl br aL aR bL bR h0) ({ frames := 3, cells := 0, slots := 0, locals := 45 } : Room).cells ({ frames := 3, cells := 0, slots := 0, locals := 45 } : Room).slots) (T21.setTop (mkF m 56 #[.val (.ref a), .val (.ref b), .val (.ref b)] [(.int (if aL = bR then (1 : Int32) else (0 : Int32)))]))
      by_cases c56_22 : (if aL = bR then (1 : Int32) else (0 : Int32)) = 0
      ·
        refine G.ifY H21 hx 77 (hb hby d9_56) (zeq c56_22).1 (by decide) rfl ?_
        refine G.iconst H21 hx 78 (0 : Int32) (hb hby d9_77) rfl rfl ?_
        exact Wk.retN W21 hx (0 : Int32) (t := .boolean) rfl (by simp) hret hlk (hb hby d9_78) (by decide) (by decide) (by unfold QEqP; simp only [own_i01, Classical.not_not] at c28_6 c42_18 c56_22; rw [if_neg (by intro q; rcases q with ⟨q1, q2⟩ | ⟨q1, q2⟩ <;> contradiction)])
      ·
        refine G.ifN H21 hx 59 (hb hby d9_56) (zne c56_22).1 rfl ?_
        refine G.aloadN H21 hx 60 (hb hby d9_59) rfl rfl rfl ?_
        refine Wk.getF W21 hx hoZ (host := "") (Or.inl (wd hw 41 rfl)) Via.refl (((Far.keep K5 nin0).keep K17 nin0).keep K21 nin0) 63 (hb hby d9_60) rfl ?_
        intro T23 W23; have H23 := W23.here
        refine G.aloadN H23 hx 64 (hb hby d9_63) rfl rfl rfl ?_
        refine Wk.getF W23 hx hoZ (host := "") (Or.inl (wd hw 39 rfl)) Via.refl (((Fbl.keep K5 nin0).keep K17 nin0).keep K21 nin0) 67 (hb hby d9_64) rfl ?_
        intro T24 W24; have H24 := W24.here
        refine Wk.virtual W24 hx hoZ (y := (⟨"java/lang/String", "equals", "(Ljava/lang/Object;)Z"⟩ : MethodName)) (z := (⟨"java/lang/String", "equals", "(Ljava/lang/Object;)Z"⟩ : MethodName)) (wd hw 53 rfl) (wd hw 54 rfl) (wd hw 56 rfl) (wd hw 55 rfl) (W24.nf (wd hw 56 rfl)) (by decide) (Wd := 0) (eqS W24.warm (wsEq hw) (wd hw 14 rfl) W24.old (((Sar.keepX K5 ala0).keepX K17 ala0).keepX K21 ala0) (((Sbl.keepX K5 ala0).keepX K17 ala0).keepX K21 ala0) hCS hcz (by decide) (by decide)) (((Sar.exa.keep K5).keep K17).keep K21) (by rw [hml]; rfl) [(.ref bl)] [] (lenOf pd3 rfl) rfl rfl (Nat.le_of_eq rfl) 70 (hb hby d9_67) rfl (by decide) (by decide) (fun _ q => nomatch q) ?_
        intro v25 T25 h25 W25 K25 Ch25 Q25
        have H25 := W25.here; have z25 := K25.1
        obtain ⟨rfl, eh25⟩ := Q25
        show Goes p e below (PostN s Z h0 [] (QEqP Z cz a b al ar bl br aL aR bL bR h0) ({ frames := 3, cells := 0, slots := 0, locals := 45 } : Room).cells ({ frames := 3, cells := 0, slots := 0, locals := 45 } : Room).slots) (T25.setTop (mkF m 70 #[.val (.ref a), .val (.ref b), .val (.ref b)] [(.int (if aR = bL then (1 : Int32) else (0 : Int32)))]))
        by_cases c70_26 : (if aR = bL then (1 : Int32) else (0 : Int32)) = 0
        ·
          refine G.ifY H25 hx 77 (hb hby d9_70) (zeq c70_26).1 (by decide) rfl ?_
          refine G.iconst H25 hx 78 (0 : Int32) (hb hby d9_77) rfl rfl ?_
          exact Wk.retN W25 hx (0 : Int32) (t := .boolean) rfl (by simp) hret hlk (hb hby d9_78) (by decide) (by decide) (by unfold QEqP; simp only [own_i01, Classical.not_not] at c28_6 c42_18 c56_22 c70_26; rw [if_neg (by intro q; rcases q with ⟨q1, q2⟩ | ⟨q1, q2⟩ <;> contradiction)])
        ·
          refine G.ifN H25 hx 73 (hb hby d9_70) (zne c70_26).1 rfl ?_
          refine G.iconst H25 hx 74 (1 : Int32) (hb hby d9_73) rfl rfl ?_
          refine G.goto H25 hx 78 (hb hby d9_74) (by decide) rfl ?_
          exact Wk.retN W25 hx (1 : Int32) (t := .boolean) rfl (by simp) hret hlk (hb hby d9_78) (by decide) (by decide) (by unfold QEqP; simp only [own_i01, Classical.not_not] at c28_6 c42_18 c56_22 c70_26; rw [if_pos (by first | exact Or.inl ⟨by assumption, by assumption⟩ | exact Or.inr ⟨by assumption, by assumption⟩)])
    ·
      refine G.ifY H17 hx 73 (hb hby d9_42) (zne c42_18).2 (by decide) rfl ?_
      refine G.iconst H17 hx 74 (1 : Int32) (hb hby d9_73) rfl rfl ?_
      refine G.goto H17 hx 78 (hb hby d9_74) (by decide) rfl ?_
      exact Wk.retN W17 hx (1 : Int32) (t := .boolean) rfl (by simp) hret hlk (hb hby d9_78) (by decide) (by decide) (by unfold QEqP; simp only [own_i01, Classical.not_not] at c28_6 c42_18; rw [if_pos (by first | exact Or.inl ⟨by assumption, by assumption⟩ | exact Or.inr ⟨by assumption, by assumption⟩)])
def QEqN2 (Z : State) (a : Addr) (h0 : Heap) : Option Value → Heap → Prop := fun v h => v = some (.int 0)
set_option maxRecDepth 65536 in
set_option maxHeartbeats 40000000 in
theorem rmEqN2 (l : Launch) (Z : State) (a0 : Array Value) (hw : ∀ d ∈ tables_1, d.before a0 Z = true) (a : Addr) (h0 : Heap) (O : Ext Z.heap h0) :
    CN [] l Z (⟨"com/example/federation/federation/PropertyCondition", "equals", "(Ljava/lang/Object;)Z"⟩ : MethodName) prog_40_method_6_code 3 (Option.some Jvm.ClassFile.FieldType.boolean) ({ frames := 0, cells := 0, slots := 0, locals := 0 } : Room) #[(.ref a), .null] h0 [] (QEqN2 Z a h0) := by
  refine CN.of_walk (plainFor_of_name pn2) O (fun _ q => nomatch q) ?_
  intro p e s m below meth c T0 W0 hx hby hml hoZ hnm hret hlk
  have H0 := W0.here; have hz0 := W0.zsize
  refine Goes.cast (ef8 m a) ?_
  refine G.aloadN H0 hx 1 (hb hby d9_0) rfl rfl rfl ?_
  refine Wk.instNull W0 hx 4 (hb hby d9_1) rfl ?_
  refine G.ifY H0 hx 15 (hb hby d9_4) (zeq (by decide)).1 (by decide) rfl ?_
  refine G.iconst H0 hx 16 (0 : Int32) (hb hby d9_15) rfl rfl ?_
  exact Wk.retN W0 hx (0 : Int32) (t := .boolean) rfl (by simp) hret hlk (hb hby d9_16) (by decide) (by decide) rfl
def QEqT (Z : State) (a : Addr) (b : Addr) (h0 : Heap) : Option Value → Heap → Prop := fun v h => v = some (.int 0)
set_option maxRecDepth 65536 in
set_option maxHeartbeats 40000000 in
theorem rmEqT (l : Launch) (Z : State) (a0 : Array Value) (hw : ∀ d ∈ tables_1, d.before a0 Z = true) (a : Addr) (b : Addr) (h0 : Heap) (O : Ext Z.heap h0) (Eb : Exa Z h0 b "java/lang/String") :
    CN [] l Z (⟨"com/example/federation/federation/PropertyCondition", "equals", "(Ljava/lang/Object;)Z"⟩ : MethodName) prog_40_method_6_code 3 (Option.some Jvm.ClassFile.FieldType.boolean) ({ frames := 0, cells := 0, slots := 0, locals := 0 } : Room) #[(.ref a), (.ref b)] h0 [] (QEqT Z a b h0) := by
  refine CN.of_walk (plainFor_of_name pn2) O (fun _ q => nomatch q) ?_
  intro p e s m below meth c T0 W0 hx hby hml hoZ hnm hret hlk
  have H0 := W0.here; have hz0 := W0.zsize
  refine Goes.cast (ef7 m a b) ?_
  refine G.aloadN H0 hx 1 (hb hby d9_0) rfl rfl rfl ?_
  refine Wk.instNo W0 hx hoZ (wd hw 51 rfl) Eb (not_sub (wd hw 64 rfl) (wd hw 65 rfl) (wd hw 5 rfl) (by decide) (by decide)) 4 (hb hby d9_1) rfl ?_
  intro T1 W1; have H1 := W1.here
  refine G.ifY H1 hx 15 (hb hby d9_4) (zeq (by decide)).1 (by decide) rfl ?_
  refine G.iconst H1 hx 16 (0 : Int32) (hb hby d9_15) rfl rfl ?_
  exact Wk.retN W1 hx (0 : Int32) (t := .boolean) rfl (by simp) hret hlk (hb hby d9_16) (by decide) (by decide) rfl
def Q0 (Z : State) (cz : Int32) (p0 : Int32) (p1 : Int32) (p2 : Int32) (p3 : Int32) (p4 : Int32) (h0 : Heap) : Option Value → Heap → Prop := fun v h => v = some (.int 1)
set_option maxRecDepth 65536 in
set_option maxHeartbeats 40000000 in
theorem rm0 (l : Launch) (Z : State) (a0 : Array Value) (hw : ∀ d ∈ tables_1, d.before a0 Z = true) (cz : Int32) (p0 : Int32) (p1 : Int32) (p2 : Int32) (p3 : Int32) (p4 : Int32) (h0 : Heap) (O : Ext Z.heap h0) (hCS : Sta Z Z.heap "java/lang/String" "COMPACT_STRINGS" "Z" (.int cz)) (hcz : ¬ cz = 0) :
    CW tables_1 l Z consts_1 x code maxLocals ret room_1 #[(.int p0), (.int p1), (.int p2), (.int p3), (.int p4)] h0 [] (Q0 Z cz p0 p1 p2 p3 p4 h0) := by
  refine CW.of_walk (plainFor_of_name pn1) O (fun _ q => nomatch q) ?_
  intro p e s m below meth c T0 W0 hsf hx hby hml hoZ hnm hret hlk
  have H0 := W0.here; have hz0 := W0.zsize; have hEL := elw hw
  refine Goes.cast (ef9 m p0 p1 p2 p3 p4) ?_
  refine G.iload H0 hx 2 (hb hby at_0) rfl rfl ?_
  refine G.iconst H0 hx 3 (3 : Int32) (hb hby at_2) rfl rfl ?_
  refine G.iand H0 hx 4 (hb hby at_3) rfl ?_
  refine G.iconst H0 hx 5 (3 : Int32) (hb hby at_4) rfl rfl ?_
  refine G.irem H0 hx 6 (hb hby at_5) (by decide) rfl ?_
  refine G.iloadN H0 hx 7 (hb hby at_6) rfl rfl ?_
  refine G.iloadN H0 hx 8 (hb hby at_7) rfl rfl ?_
  refine G.iloadN H0 hx 9 (hb hby at_8) rfl rfl ?_
  refine Wk.callS W0 hx hoZ (y := (⟨"com/example/federation/federation/PropertyConditionEqualsPinLaw", "pick", "(IIII)I"⟩ : MethodName)) (wd hw 0 rfl) (wd hw 1 rfl) (wd hw 2 rfl) (wd hw 3 rfl) (by decide) (Wd := 0) (CN.back (rmpick l Z a0 hw ((p4 &&& (3 : Int32)) % (3 : Int32)) p2 p0 p1 h0 W0.old ) W0.warm (wd hw 3 rfl) (wd hw 2 rfl) (by decide) (by decide)) (by rw [hml]; rfl) [(.int ((p4 &&& (3 : Int32)) % (3 : Int32))), (.int p2), (.int p0), (.int p1)] [] (lenOf pd4 rfl) rfl rfl (Nat.le_of_eq rfl) 12 (hb hby at_9) rfl (by decide) (by decide) (fun _ q => nomatch q) ?_
  intro v1 T1 h1 W1 K1 Ch1 Q1
  have H1 := W1.here; have z1 := K1.1
  obtain ⟨rfl, eh1⟩ := Q1
  show Goes p e below (PostW s Z consts_1 h0 [] (Q0 Z cz p0 p1 p2 p3 p4 h0) room_1.cells room_1.slots) (T1.setTop (mkF m 12 #[.val (.int p0), .val (.int p1), .val (.int p2), .val (.int p3), .val (.int p4), .unset, .unset, .unset, .unset, .unset, .unset] [(.int (f_pick ((p4 &&& (3 : Int32)) % (3 : Int32)) p2 p0 p1))]))
  refine G.istore H1 hx 14 (fun v => #[.val (.int p0), .val (.int p1), .val (.int p2), .val (.int p3), .val (.int p4), .val (.int v), .unset, .unset, .unset, .unset, .unset]) (hb hby at_12) (fun _ => rfl) rfl ?_
  intro v2 hv2
  refine G.iload H1 hx 16 (hb hby at_14) rfl rfl ?_
  refine G.iconst H1 hx 17 (2 : Int32) (hb hby at_16) rfl rfl ?_
  refine G.iushr H1 hx 18 (hb hby at_17) rfl ?_
  refine G.iconst H1 hx 19 (3 : Int32) (hb hby at_18) rfl rfl ?_
  refine G.iand H1 hx 20 (hb hby at_19) rfl ?_
  refine G.iconst H1 hx 21 (3 : Int32) (hb hby at_20) rfl rfl ?_
  refine G.irem H1 hx 22 (hb hby at_21) (by decide) rfl ?_
  refine G.iloadN H1 hx 23 (hb hby at_22) rfl rfl ?_
  refine G.iloadN H1 hx 24 (hb hby at_23) rfl rfl ?_
  refine G.iloadN H1 hx 25 (hb hby at_24) rfl rfl ?_
  refine Wk.callS W1 hx hoZ (y := (⟨"com/example/federation/federation/PropertyConditionEqualsPinLaw", "pick", "(IIII)I"⟩ : MethodName)) (wd hw 0 rfl) (wd hw 1 rfl) (wd hw 2 rfl) (wd hw 3 rfl) (by decide) (Wd := 0) (CN.back (rmpick l Z a0 hw (((XT.ushr p4 (2 : Int32)) &&& (3 : Int32)) % (3 : Int32)) p3 p0 p1 h1 W1.old ) W1.warm (wd hw 3 rfl) (wd hw 2 rfl) (by decide) (by decide)) (by rw [hml]; rfl) [(.int (((XT.ushr p4 (2 : Int32)) &&& (3 : Int32)) % (3 : Int32))), (.int p3), (.int p0), (.int p1)] [] (lenOf pd4 rfl) rfl rfl (Nat.le_of_eq rfl) 28 (hb hby at_25) rfl (by decide) (by decide) (fun _ q => nomatch q) ?_
  intro v3 T3 h3 W3 K3 Ch3 Q3
  have H3 := W3.here; have z3 := K3.1
  obtain ⟨rfl, eh3⟩ := Q3
  show Goes p e below (PostW s Z consts_1 h0 [] (Q0 Z cz p0 p1 p2 p3 p4 h0) room_1.cells room_1.slots) (T3.setTop (mkF m 28 #[.val (.int p0), .val (.int p1), .val (.int p2), .val (.int p3), .val (.int p4), .val (.int v2), .unset, .unset, .unset, .unset, .unset] [(.int (f_pick (((XT.ushr p4 (2 : Int32)) &&& (3 : Int32)) % (3 : Int32)) p3 p0 p1))]))
  refine G.istore H3 hx 30 (fun v => #[.val (.int p0), .val (.int p1), .val (.int p2), .val (.int p3), .val (.int p4), .val (.int v2), .val (.int v), .unset, .unset, .unset, .unset]) (hb hby at_28) (fun _ => rfl) rfl ?_
  intro v4 hv4
  refine Wk.newO W3 hx hoZ (wd hw 4 rfl) (wd hw 5 rfl) (wd hw 6 rfl) 33 (hb hby at_30) rfl (by decide) (by decide) ?_
  intro T5 h5 a5 W5 E5 g5 A5 D5 S5
  have H5 := W5.here; have z5 := E5.1; have gu5 := Nat.le_of_eq g5; have gt5 := Nat.le_of_eq g5.symm; have l5 := ltN A5.lt
  refine G.dup H5 hx 34 (hb hby at_33) rfl rfl ?_
  refine G.iloadN H5 hx 35 (hb hby at_34) rfl rfl ?_
  refine Wk.callSW W5 hx hoZ (y := (⟨"com/example/federation/federation/PropertyConditionEqualsPinLaw", "str", "(I)Ljava/lang/String;"⟩ : MethodName)) (wd hw 7 rfl) (wd hw 8 rfl) (wd hw 2 rfl) (wd hw 9 rfl) (by decide) (Wd := 2) (CW.back (rmMk l Z a0 hw cz p0 h5 W5.old hCS hcz) W5.warm (wd hw 9 rfl) (wd hw 2 rfl) (by decide) (by decide) hEL W5.ch (fun _ q => nomatch q) (fun _ q => nomatch q)) (by rw [hml]; rfl) [(.int p0)] [(.ref a5), (.ref a5)] (lenOf pd5 rfl) rfl rfl (Nat.le_of_eq rfl) 38 (hb hby at_35) rfl (by decide) (by decide) (fun _ q => nomatch q) ?_
  intro v6 vm6 T6 h6 W6 K6 Ch6 Q6
  have H6 := W6.here; have z6 := K6.1
  obtain ⟨a6, rfl, g6, Sv6⟩ := Q6; have l6 := ltN Sv6.lt
  show Goes p e below (PostW s Z consts_1 h0 [] (Q0 Z cz p0 p1 p2 p3 p4 h0) room_1.cells room_1.slots) (T6.setTop (mkF m 38 #[.val (.int p0), .val (.int p1), .val (.int p2), .val (.int p3), .val (.int p4), .val (.int v2), .val (.int v4), .unset, .unset, .unset, .unset] [(.ref a6), (.ref a5), (.ref a5)]))
  refine G.iloadN H6 hx 39 (hb hby at_38) rfl rfl ?_
  refine Wk.callSW W6 hx hoZ (y := (⟨"com/example/federation/federation/PropertyConditionEqualsPinLaw", "str", "(I)Ljava/lang/String;"⟩ : MethodName)) (wd hw 7 rfl) (wd hw 8 rfl) (wd hw 2 rfl) (wd hw 9 rfl) (by decide) (Wd := 3) (CW.back (rmMk l Z a0 hw cz p1 h6 W6.old hCS hcz) W6.warm (wd hw 9 rfl) (wd hw 2 rfl) (by decide) (by decide) hEL W6.ch (fun _ q => nomatch q) (fun _ q => nomatch q)) (by rw [hml]; rfl) [(.int p1)] [(.ref a6), (.ref a5), (.ref a5)] (lenOf pd5 rfl) rfl rfl (Nat.le_of_eq rfl) 42 (hb hby at_39) rfl (by decide) (by decide) (fun _ q => nomatch q) ?_
  intro v7 vm7 T7 h7 W7 K7 Ch7 Q7
  have H7 := W7.here; have z7 := K7.1
  obtain ⟨a7, rfl, g7, Sv7⟩ := Q7; have l7 := ltN Sv7.lt
  show Goes p e below (PostW s Z consts_1 h0 [] (Q0 Z cz p0 p1 p2 p3 p4 h0) room_1.cells room_1.slots) (T7.setTop (mkF m 42 #[.val (.int p0), .val (.int p1), .val (.int p2), .val (.int p3), .val (.int p4), .val (.int v2), .val (.int v4), .unset, .unset, .unset, .unset] [(.ref a7), (.ref a6), (.ref a5), (.ref a5)]))
  refine Wk.special W7 hx hoZ (y := (⟨"com/example/federation/federation/PropertyCondition", "<init>", "(Ljava/lang/String;Ljava/lang/String;)V"⟩ : MethodName)) rfl (wd hw 35 rfl) (wd hw 36 rfl) (wd hw 37 rfl) (by decide) (Wd := 1) (CN.back (rmPin l Z a0 hw a5 (.ref a6) (.ref a7) h7 W7.old (by omega) ((A5.keep K6).keep K7) rfl rfl (((D5 (Or.inr (wd hw 40 rfl)) (ty := (.object "java/lang/String")) (by decide)).keep K6 nin0).keep K7 nin0) (((D5 (Or.inr (wd hw 42 rfl)) (ty := (.object "java/lang/String")) (by decide)).keep K6 nin0).keep K7 nin0)) W7.warm (wd hw 37 rfl) (wd hw 6 rfl) (by decide) (by decide)) a5 (by rw [hml]; rfl) [(.ref a6), (.ref a7)] [(.ref a5)] (lenOf pd6 rfl) rfl rfl (Nat.le_of_eq rfl) 45 (hb hby at_42) rfl (by decide) (by decide) (hws1 (Or.inr (by omega)) (Ch7.safe (ltA (by omega)) (Ch6.safe (ltA (by omega)) S5))) ?_
  intro v8 T8 h8 W8 K8 Ch8 Q8
  have H8 := W8.here; have z8 := K8.1
  obtain ⟨rfl, X8, F8_left, F8_right⟩ := Q8
  show Goes p e below (PostW s Z consts_1 h0 [] (Q0 Z cz p0 p1 p2 p3 p4 h0) room_1.cells room_1.slots) (T8.setTop (mkF m 45 #[.val (.int p0), .val (.int p1), .val (.int p2), .val (.int p3), .val (.int p4), .val (.int v2), .val (.int v4), .unset, .unset, .unset, .unset] [(.ref a5)]))
  refine G.astore H8 hx 47 #[.val (.int p0), .val (.int p1), .val (.int p2), .val (.int p3), .val (.int p4), .val (.int v2), .val (.int v4), .val (.ref a5), .unset, .unset, .unset] (hb hby at_45) rfl rfl rfl ?_
  refine G.iload H8 hx 49 (hb hby at_47) rfl rfl ?_
  refine G.iconst H8 hx 50 (4 : Int32) (hb hby at_49) rfl rfl ?_
  refine G.iushr H8 hx 51 (hb hby at_50) rfl ?_
  refine G.iconst H8 hx 52 (3 : Int32) (hb hby at_51) rfl rfl ?_
  refine G.iand H8 hx 53 (hb hby at_52) rfl ?_
  refine G.istore H8 hx 55 (fun v => #[.val (.int p0), .val (.int p1), .val (.int p2), .val (.int p3), .val (.int p4), .val (.int v2), .val (.int v4), .val (.ref a5), .val (.int v), .unset, .unset]) (hb hby at_53) (fun _ => rfl) rfl ?_
  intro v9 hv9
  refine G.iload H8 hx 57 (hb hby at_55) rfl rfl ?_
  refine G.iconst H8 hx 58 (2 : Int32) (hb hby at_57) rfl rfl ?_
  by_cases c58_10 : v9 = (2 : Int32)
  ·
    refine G.icmpN H8 hx 61 (hb hby at_58) (teq c58_10).2 rfl ?_
    refine G.aload H8 hx 63 (hb hby at_61) rfl rfl rfl ?_
    refine G.iloadN H8 hx 64 (hb hby at_63) rfl rfl ?_
    refine Wk.callSW W8 hx hoZ (y := (⟨"com/example/federation/federation/PropertyConditionEqualsPinLaw", "str", "(I)Ljava/lang/String;"⟩ : MethodName)) (wd hw 7 rfl) (wd hw 8 rfl) (wd hw 2 rfl) (wd hw 9 rfl) (by decide) (Wd := 1) (CW.back (rmMk l Z a0 hw cz p0 h8 W8.old hCS hcz) W8.warm (wd hw 9 rfl) (wd hw 2 rfl) (by decide) (by decide) hEL W8.ch (fun _ q => nomatch q) (fun _ q => nomatch q)) (by rw [hml]; rfl) [(.int p0)] [(.ref a5)] (lenOf pd5 rfl) rfl rfl (Nat.le_of_eq rfl) 67 (hb hby at_64) rfl (by decide) (by decide) (fun _ q => nomatch q) ?_
    intro v11 vm11 T11 h11 W11 K11 Ch11 Q11
    have H11 := W11.here; have z11 := K11.1
    obtain ⟨a11, rfl, g11, Sv11⟩ := Q11; have l11 := ltN Sv11.lt
    show Goes p e below (PostW s Z consts_1 h0 [] (Q0 Z cz p0 p1 p2 p3 p4 h0) room_1.cells room_1.slots) (T11.setTop (mkF m 67 #[.val (.int p0), .val (.int p1), .val (.int p2), .val (.int p3), .val (.int p4), .val (.int v2), .val (.int v4), .val (.ref a5), .val (.int v9), .unset, .unset] [(.ref a11), (.ref a5)]))
    refine Wk.virtual W11 hx hoZ (y := (⟨"com/example/federation/federation/PropertyCondition", "equals", "(Ljava/lang/Object;)Z"⟩ : MethodName)) (z := (⟨"com/example/federation/federation/PropertyCondition", "equals", "(Ljava/lang/Object;)Z"⟩ : MethodName)) (wd hw 46 rfl) (wd hw 47 rfl) (wd hw 49 rfl) (wd hw 48 rfl) (W11.nf (wd hw 49 rfl)) (by decide) (Wd := 0) (CN.back (rmEqT l Z a0 hw a5 a11 h11 W11.old Sv11.exa) W11.warm (wd hw 50 rfl) (wd hw 6 rfl) (by decide) (by decide)) (X8.keep K11) (by rw [hml]; rfl) [(.ref a11)] [] (lenOf pd3 rfl) rfl rfl (Nat.le_of_eq rfl) 70 (hb hby at_67) rfl (by decide) (by decide) (fun _ q => nomatch q) ?_
    intro v12 T12 h12 W12 K12 Ch12 Q12
    have H12 := W12.here; have z12 := K12.1
    obtain rfl : _ = _ := Q12
    show Goes p e below (PostW s Z consts_1 h0 [] (Q0 Z cz p0 p1 p2 p3 p4 h0) room_1.cells room_1.slots) (T12.setTop (mkF m 70 #[.val (.int p0), .val (.int p1), .val (.int p2), .val (.int p3), .val (.int p4), .val (.int v2), .val (.int v4), .val (.ref a5), .val (.int v9), .unset, .unset] [(.int (0 : Int32))]))
    refine G.ifN H12 hx 73 (hb hby at_70) (zeq (by decide)).2 rfl ?_
    refine G.iconst H12 hx 74 (1 : Int32) (hb hby at_73) rfl rfl ?_
    refine G.goto H12 hx 78 (hb hby at_74) (by decide) rfl ?_
    exact Wk.retNW W12 hx hEL (1 : Int32) (t := .boolean) rfl (by simp) hret hlk (hb hby at_78) (by decide) (by decide) rfl
  ·
    refine G.icmpY H8 hx 79 (hb hby at_58) (feq c58_10).2 (by decide) rfl ?_
    refine G.iload H8 hx 81 (hb hby at_79) rfl rfl ?_
    refine G.iconst H8 hx 82 (3 : Int32) (hb hby at_81) rfl rfl ?_
    by_cases c82_13 : v9 = (3 : Int32)
    ·
      refine G.icmpN H8 hx 85 (hb hby at_82) (teq c82_13).2 rfl ?_
      refine G.aload H8 hx 87 (hb hby at_85) rfl rfl rfl ?_
      refine G.aconstNull H8 hx 88 (hb hby at_87) rfl ?_
      refine Wk.virtual W8 hx hoZ (y := (⟨"com/example/federation/federation/PropertyCondition", "equals", "(Ljava/lang/Object;)Z"⟩ : MethodName)) (z := (⟨"com/example/federation/federation/PropertyCondition", "equals", "(Ljava/lang/Object;)Z"⟩ : MethodName)) (wd hw 46 rfl) (wd hw 47 rfl) (wd hw 49 rfl) (wd hw 48 rfl) (W8.nf (wd hw 49 rfl)) (by decide) (Wd := 0) (CN.back (rmEqN2 l Z a0 hw a5 h8 W8.old ) W8.warm (wd hw 50 rfl) (wd hw 6 rfl) (by decide) (by decide)) X8 (by rw [hml]; rfl) [.null] [] (lenOf pd3 rfl) rfl rfl (Nat.le_of_eq rfl) 91 (hb hby at_88) rfl (by decide) (by decide) (fun _ q => nomatch q) ?_
      intro v14 T14 h14 W14 K14 Ch14 Q14
      have H14 := W14.here; have z14 := K14.1
      obtain rfl : _ = _ := Q14
      show Goes p e below (PostW s Z consts_1 h0 [] (Q0 Z cz p0 p1 p2 p3 p4 h0) room_1.cells room_1.slots) (T14.setTop (mkF m 91 #[.val (.int p0), .val (.int p1), .val (.int p2), .val (.int p3), .val (.int p4), .val (.int v2), .val (.int v4), .val (.ref a5), .val (.int v9), .unset, .unset] [(.int (0 : Int32))]))
      refine G.ifN H14 hx 94 (hb hby at_91) (zeq (by decide)).2 rfl ?_
      refine G.iconst H14 hx 95 (1 : Int32) (hb hby at_94) rfl rfl ?_
      refine G.goto H14 hx 99 (hb hby at_95) (by decide) rfl ?_
      exact Wk.retNW W14 hx hEL (1 : Int32) (t := .boolean) rfl (by simp) hret hlk (hb hby at_99) (by decide) (by decide) rfl
    ·
      refine G.icmpY H8 hx 100 (hb hby at_82) (feq c82_13).2 (by decide) rfl ?_
      refine Wk.newO W8 hx hoZ (wd hw 4 rfl) (wd hw 5 rfl) (wd hw 6 rfl) 103 (hb hby at_100) rfl (by decide) (by decide) ?_
      intro T15 h15 a15 W15 E15 g15 A15 D15 S15
      have H15 := W15.here; have z15 := E15.1; have gu15 := Nat.le_of_eq g15; have gt15 := Nat.le_of_eq g15.symm; have l15 := ltN A15.lt
      refine G.dup H15 hx 104 (hb hby at_103) rfl rfl ?_
      refine G.iload H15 hx 106 (hb hby at_104) rfl rfl ?_
      refine Wk.callSW W15 hx hoZ (y := (⟨"com/example/federation/federation/PropertyConditionEqualsPinLaw", "str", "(I)Ljava/lang/String;"⟩ : MethodName)) (wd hw 7 rfl) (wd hw 8 rfl) (wd hw 2 rfl) (wd hw 9 rfl) (by decide) (Wd := 2) (CW.back (rmMk l Z a0 hw cz v2 h15 W15.old hCS hcz) W15.warm (wd hw 9 rfl) (wd hw 2 rfl) (by decide) (by decide) hEL W15.ch (fun _ q => nomatch q) (fun _ q => nomatch q)) (by rw [hml]; rfl) [(.int v2)] [(.ref a15), (.ref a15)] (lenOf pd5 rfl) rfl rfl (Nat.le_of_eq rfl) 109 (hb hby at_106) rfl (by decide) (by decide) (fun _ q => nomatch q) ?_
      intro v16 vm16 T16 h16 W16 K16 Ch16 Q16
      have H16 := W16.here; have z16 := K16.1
      obtain ⟨a16, rfl, g16, Sv16⟩ := Q16; have l16 := ltN Sv16.lt
      show Goes p e below (PostW s Z consts_1 h0 [] (Q0 Z cz p0 p1 p2 p3 p4 h0) room_1.cells room_1.slots) (T16.setTop (mkF m 109 #[.val (.int p0), .val (.int p1), .val (.int p2), .val (.int p3), .val (.int p4), .val (.int v2), .val (.int v4), .val (.ref a5), .val (.int v9), .unset, .unset] [(.ref a16), (.ref a15), (.ref a15)]))
      refine G.iload H16 hx 111 (hb hby at_109) rfl rfl ?_
      refine Wk.callSW W16 hx hoZ (y := (⟨"com/example/federation/federation/PropertyConditionEqualsPinLaw", "str", "(I)Ljava/lang/String;"⟩ : MethodName)) (wd hw 7 rfl) (wd hw 8 rfl) (wd hw 2 rfl) (wd hw 9 rfl) (by decide) (Wd := 3) (CW.back (rmMk l Z a0 hw cz v4 h16 W16.old hCS hcz) W16.warm (wd hw 9 rfl) (wd hw 2 rfl) (by decide) (by decide) hEL W16.ch (fun _ q => nomatch q) (fun _ q => nomatch q)) (by rw [hml]; rfl) [(.int v4)] [(.ref a16), (.ref a15), (.ref a15)] (lenOf pd5 rfl) rfl rfl (Nat.le_of_eq rfl) 114 (hb hby at_111) rfl (by decide) (by decide) (fun _ q => nomatch q) ?_
      intro v17 vm17 T17 h17 W17 K17 Ch17 Q17
      have H17 := W17.here; have z17 := K17.1
      obtain ⟨a17, rfl, g17, Sv17⟩ := Q17; have l17 := ltN Sv17.lt
      show Goes p e below (PostW s Z consts_1 h0 [] (Q0 Z cz p0 p1 p2 p3 p4 h0) room_1.cells room_1.slots) (T17.setTop (mkF m 114 #[.val (.int p0), .val (.int p1), .val (.int p2), .val (.int p3), .val (.int p4), .val (.int v2), .val (.int v4), .val (.ref a5), .val (.int v9), .unset, .unset] [(.ref a17), (.ref a16), (.ref a15), (.ref a15)]))
      refine Wk.special W17 hx hoZ (y := (⟨"com/example/federation/federation/PropertyCondition", "<init>", "(Ljava/lang/String;Ljava/lang/String;)V"⟩ : MethodName)) rfl (wd hw 35 rfl) (wd hw 36 rfl) (wd hw 37 rfl) (by decide) (Wd := 1) (CN.back (rmPin l Z a0 hw a15 (.ref a16) (.ref a17) h17 W17.old (by omega) ((A15.keep K16).keep K17) rfl rfl (((D15 (Or.inr (wd hw 40 rfl)) (ty := (.object "java/lang/String")) (by decide)).keep K16 nin0).keep K17 nin0) (((D15 (Or.inr (wd hw 42 rfl)) (ty := (.object "java/lang/String")) (by decide)).keep K16 nin0).keep K17 nin0)) W17.warm (wd hw 37 rfl) (wd hw 6 rfl) (by decide) (by decide)) a15 (by rw [hml]; rfl) [(.ref a16), (.ref a17)] [(.ref a15)] (lenOf pd6 rfl) rfl rfl (Nat.le_of_eq rfl) 117 (hb hby at_114) rfl (by decide) (by decide) (hws1 (Or.inr (by omega)) (Ch17.safe (ltA (by omega)) (Ch16.safe (ltA (by omega)) S15))) ?_
      intro v18 T18 h18 W18 K18 Ch18 Q18
      have H18 := W18.here; have z18 := K18.1
      obtain ⟨rfl, X18, F18_left, F18_right⟩ := Q18
      show Goes p e below (PostW s Z consts_1 h0 [] (Q0 Z cz p0 p1 p2 p3 p4 h0) room_1.cells room_1.slots) (T18.setTop (mkF m 117 #[.val (.int p0), .val (.int p1), .val (.int p2), .val (.int p3), .val (.int p4), .val (.int v2), .val (.int v4), .val (.ref a5), .val (.int v9), .unset, .unset] [(.ref a15)]))
      refine G.astore H18 hx 119 #[.val (.int p0), .val (.int p1), .val (.int p2), .val (.int p3), .val (.int p4), .val (.int v2), .val (.int v4), .val (.ref a5), .val (.int v9), .val (.ref a15), .unset] (hb hby at_117) rfl rfl rfl ?_
      refine G.iloadN H18 hx 120 (hb hby at_119) rfl rfl ?_
      refine Wk.callS W18 hx hoZ (y := (⟨"com/example/federation/federation/PropertyConditionEqualsPinLaw", "key", "(I)I"⟩ : MethodName)) (wd hw 43 rfl) (wd hw 44 rfl) (wd hw 2 rfl) (wd hw 45 rfl) (by decide) (Wd := 0) (CN.back (rmkey l Z a0 hw p0 h18 W18.old ) W18.warm (wd hw 45 rfl) (wd hw 2 rfl) (by decide) (by decide)) (by rw [hml]; rfl) [(.int p0)] [] (lenOf pd1 rfl) rfl rfl (Nat.le_of_eq rfl) 123 (hb hby at_120) rfl (by decide) (by decide) (fun _ q => nomatch q) ?_
      intro v19 T19 h19 W19 K19 Ch19 Q19
      have H19 := W19.here; have z19 := K19.1
      obtain ⟨rfl, eh19⟩ := Q19
      show Goes p e below (PostW s Z consts_1 h0 [] (Q0 Z cz p0 p1 p2 p3 p4 h0) room_1.cells room_1.slots) (T19.setTop (mkF m 123 #[.val (.int p0), .val (.int p1), .val (.int p2), .val (.int p3), .val (.int p4), .val (.int v2), .val (.int v4), .val (.ref a5), .val (.int v9), .val (.ref a15), .unset] [(.int (f_key p0))]))
      refine G.iload H19 hx 125 (hb hby at_123) rfl rfl ?_
      refine Wk.callS W19 hx hoZ (y := (⟨"com/example/federation/federation/PropertyConditionEqualsPinLaw", "key", "(I)I"⟩ : MethodName)) (wd hw 43 rfl) (wd hw 44 rfl) (wd hw 2 rfl) (wd hw 45 rfl) (by decide) (Wd := 1) (CN.back (rmkey l Z a0 hw v2 h19 W19.old ) W19.warm (wd hw 45 rfl) (wd hw 2 rfl) (by decide) (by decide)) (by rw [hml]; rfl) [(.int v2)] [(.int (f_key p0))] (lenOf pd1 rfl) rfl rfl (Nat.le_of_eq rfl) 128 (hb hby at_125) rfl (by decide) (by decide) (fun _ q => nomatch q) ?_
      intro v20 T20 h20 W20 K20 Ch20 Q20
      have H20 := W20.here; have z20 := K20.1
      obtain ⟨rfl, eh20⟩ := Q20
      show Goes p e below (PostW s Z consts_1 h0 [] (Q0 Z cz p0 p1 p2 p3 p4 h0) room_1.cells room_1.slots) (T20.setTop (mkF m 128 #[.val (.int p0), .val (.int p1), .val (.int p2), .val (.int p3), .val (.int p4), .val (.int v2), .val (.int v4), .val (.ref a5), .val (.int v9), .val (.ref a15), .unset] [(.int (f_key v2)), (.int (f_key p0))]))
      by_cases c128_21 : (f_key p0) = (f_key v2)
      ·
        refine G.icmpN H20 hx 131 (hb hby at_128) (teq c128_21).2 rfl ?_
        refine G.iloadN H20 hx 132 (hb hby at_131) rfl rfl ?_
        refine Wk.callS W20 hx hoZ (y := (⟨"com/example/federation/federation/PropertyConditionEqualsPinLaw", "key", "(I)I"⟩ : MethodName)) (wd hw 43 rfl) (wd hw 44 rfl) (wd hw 2 rfl) (wd hw 45 rfl) (by decide) (Wd := 0) (CN.back (rmkey l Z a0 hw p1 h20 W20.old ) W20.warm (wd hw 45 rfl) (wd hw 2 rfl) (by decide) (by decide)) (by rw [hml]; rfl) [(.int p1)] [] (lenOf pd1 rfl) rfl rfl (Nat.le_of_eq rfl) 135 (hb hby at_132) rfl (by decide) (by decide) (fun _ q => nomatch q) ?_
        intro v22 T22 h22 W22 K22 Ch22 Q22
        have H22 := W22.here; have z22 := K22.1
        obtain ⟨rfl, eh22⟩ := Q22
        show Goes p e below (PostW s Z consts_1 h0 [] (Q0 Z cz p0 p1 p2 p3 p4 h0) room_1.cells room_1.slots) (T22.setTop (mkF m 135 #[.val (.int p0), .val (.int p1), .val (.int p2), .val (.int p3), .val (.int p4), .val (.int v2), .val (.int v4), .val (.ref a5), .val (.int v9), .val (.ref a15), .unset] [(.int (f_key p1))]))
        refine G.iload H22 hx 137 (hb hby at_135) rfl rfl ?_
        refine Wk.callS W22 hx hoZ (y := (⟨"com/example/federation/federation/PropertyConditionEqualsPinLaw", "key", "(I)I"⟩ : MethodName)) (wd hw 43 rfl) (wd hw 44 rfl) (wd hw 2 rfl) (wd hw 45 rfl) (by decide) (Wd := 1) (CN.back (rmkey l Z a0 hw v4 h22 W22.old ) W22.warm (wd hw 45 rfl) (wd hw 2 rfl) (by decide) (by decide)) (by rw [hml]; rfl) [(.int v4)] [(.int (f_key p1))] (lenOf pd1 rfl) rfl rfl (Nat.le_of_eq rfl) 140 (hb hby at_137) rfl (by decide) (by decide) (fun _ q => nomatch q) ?_
        intro v23 T23 h23 W23 K23 Ch23 Q23
        have H23 := W23.here; have z23 := K23.1
        obtain ⟨rfl, eh23⟩ := Q23
        show Goes p e below (PostW s Z consts_1 h0 [] (Q0 Z cz p0 p1 p2 p3 p4 h0) room_1.cells room_1.slots) (T23.setTop (mkF m 140 #[.val (.int p0), .val (.int p1), .val (.int p2), .val (.int p3), .val (.int p4), .val (.int v2), .val (.int v4), .val (.ref a5), .val (.int v9), .val (.ref a15), .unset] [(.int (f_key v4)), (.int (f_key p1))]))
        by_cases c140_24 : (f_key p1) = (f_key v4)
        ·
          refine G.icmpY H23 hx 167 (hb hby at_140) (teq c140_24).1 (by decide) rfl ?_
          refine G.iconst H23 hx 168 (1 : Int32) (hb hby at_167) rfl rfl ?_
          refine G.goto H23 hx 172 (hb hby at_168) (by decide) rfl ?_
          refine G.istoreX H23 hx 174 #[.val (.int p0), .val (.int p1), .val (.int p2), .val (.int p3), .val (.int p4), .val (.int v2), .val (.int v4), .val (.ref a5), .val (.int v9), .val (.ref a15), .val (.int (1 : Int32))] (hb hby at_172) rfl rfl ?_
          refine G.aload H23 hx 176 (hb hby at_174) rfl rfl rfl ?_
          refine G.aload H23 hx 178 (hb hby at_176) rfl rfl rfl ?_
          refine Wk.virtual W23 hx hoZ (y := (⟨"com/example/federation/federation/PropertyCondition", "equals", "(Ljava/lang/Object;)Z"⟩ : MethodName)) (z := (⟨"com/example/federation/federation/PropertyCondition", "equals", "(Ljava/lang/Object;)Z"⟩ : MethodName)) (wd hw 46 rfl) (wd hw 47 rfl) (wd hw 49 rfl) (wd hw 48 rfl) (W23.nf (wd hw 49 rfl)) (by decide) (Wd := 0) (CN.back (rmEqP l Z a0 hw cz a5 a15 a6 a7 a16 a17 (strL p0) (strL p1) (strL v2) (strL v4) h23 W23.old hCS hcz ((((((((X8.ext E15).keep K16).keep K17).keep K18).keep K19).keep K20).keep K22).keep K23) ((((((((F8_left.ext E15).keep K16 nin0).keep K17 nin0).keep K18 (ninS (neA (by omega)) nin0)).keep K19 nin0).keep K20 nin0).keep K22 nin0).keep K23 nin0) ((((((((F8_right.ext E15).keep K16 nin0).keep K17 nin0).keep K18 (ninS (neA (by omega)) nin0)).keep K19 nin0).keep K20 nin0).keep K22 nin0).keep K23 nin0) ((((((((((Sv6.keepX K7 ala0).keepX K8 (ala ⟨neA (by omega), NB.exa ((A5.keep K6).keep K7) (wd hw 5 rfl)⟩ (ala0))).ext E15).keepX K16 ala0).keepX K17 ala0).keepX K18 (ala ⟨neA (by omega), NB.exa ((A15.keep K16).keep K17) (wd hw 5 rfl)⟩ (ala0))).keepX K19 ala0).keepX K20 ala0).keepX K22 ala0).keepX K23 ala0) (((((((((Sv7.keepX K8 (ala ⟨neA (by omega), NB.exa ((A5.keep K6).keep K7) (wd hw 5 rfl)⟩ (ala0))).ext E15).keepX K16 ala0).keepX K17 ala0).keepX K18 (ala ⟨neA (by omega), NB.exa ((A15.keep K16).keep K17) (wd hw 5 rfl)⟩ (ala0))).keepX K19 ala0).keepX K20 ala0).keepX K22 ala0).keepX K23 ala0) ((((X18.keep K19).keep K20).keep K22).keep K23) ((((F18_left.keep K19 nin0).keep K20 nin0).keep K22 nin0).keep K23 nin0) ((((F18_right.keep K19 nin0).keep K20 nin0).keep K22 nin0).keep K23 nin0) ((((((Sv16.keepX K17 ala0).keepX K18 (ala ⟨neA (by omega), NB.exa ((A15.keep K16).keep K17) (wd hw 5 rfl)⟩ (ala0))).keepX K19 ala0).keepX K20 ala0).keepX K22 ala0).keepX K23 ala0) (((((Sv17.keepX K18 (ala ⟨neA (by omega), NB.exa ((A15.keep K16).keep K17) (wd hw 5 rfl)⟩ (ala0))).keepX K19 ala0).keepX K20 ala0).keepX K22 ala0).keepX K23 ala0)) W23.warm (wd hw 50 rfl) (wd hw 6 rfl) (by decide) (by decide)) ((((((((X8.ext E15).keep K16).keep K17).keep K18).keep K19).keep K20).keep K22).keep K23) (by rw [hml]; rfl) [(.ref a15)] [] (lenOf pd3 rfl) rfl rfl (Nat.le_of_eq rfl) 181 (hb hby at_178) rfl (by decide) (by decide) (fun _ q => nomatch q) ?_
          intro v25 T25 h25 W25 K25 Ch25 Q25
          have H25 := W25.here; have z25 := K25.1
          obtain rfl : _ = _ := Q25
          show Goes p e below (PostW s Z consts_1 h0 [] (Q0 Z cz p0 p1 p2 p3 p4 h0) room_1.cells room_1.slots) (T25.setTop (mkF m 181 #[.val (.int p0), .val (.int p1), .val (.int p2), .val (.int p3), .val (.int p4), .val (.int v2), .val (.int v4), .val (.ref a5), .val (.int v9), .val (.ref a15), .val (.int (1 : Int32))] [(.int (if ((strL p0) = (strL v2) ∧ (strL p1) = (strL v4)) ∨ ((strL p0) = (strL v4) ∧ (strL p1) = (strL v2)) then (1 : Int32) else (0 : Int32)))]))
          refine G.iload H25 hx 183 (hb hby at_181) rfl rfl ?_
          by_cases c183_26 : (if ((strL p0) = (strL v2) ∧ (strL p1) = (strL v4)) ∨ ((strL p0) = (strL v4) ∧ (strL p1) = (strL v2)) then (1 : Int32) else (0 : Int32)) = (1 : Int32)
          ·
            refine G.icmpN H25 hx 186 (hb hby at_183) (teq c183_26).2 rfl ?_
            refine G.aload H25 hx 188 (hb hby at_186) rfl rfl rfl ?_
            refine G.aload H25 hx 190 (hb hby at_188) rfl rfl rfl ?_
            refine Wk.virtual W25 hx hoZ (y := (⟨"com/example/federation/federation/PropertyCondition", "equals", "(Ljava/lang/Object;)Z"⟩ : MethodName)) (z := (⟨"com/example/federation/federation/PropertyCondition", "equals", "(Ljava/lang/Object;)Z"⟩ : MethodName)) (wd hw 46 rfl) (wd hw 47 rfl) (wd hw 49 rfl) (wd hw 48 rfl) (W25.nf (wd hw 49 rfl)) (by decide) (Wd := 0) (CN.back (rmEqP l Z a0 hw cz a15 a5 a16 a17 a6 a7 (strL v2) (strL v4) (strL p0) (strL p1) h25 W25.old hCS hcz (((((X18.keep K19).keep K20).keep K22).keep K23).keep K25) (((((F18_left.keep K19 nin0).keep K20 nin0).keep K22 nin0).keep K23 nin0).keep K25 nin0) (((((F18_right.keep K19 nin0).keep K20 nin0).keep K22 nin0).keep K23 nin0).keep K25 nin0) (((((((Sv16.keepX K17 ala0).keepX K18 (ala ⟨neA (by omega), NB.exa ((A15.keep K16).keep K17) (wd hw 5 rfl)⟩ (ala0))).keepX K19 ala0).keepX K20 ala0).keepX K22 ala0).keepX K23 ala0).keepX K25 ala0) ((((((Sv17.keepX K18 (ala ⟨neA (by omega), NB.exa ((A15.keep K16).keep K17) (wd hw 5 rfl)⟩ (ala0))).keepX K19 ala0).keepX K20 ala0).keepX K22 ala0).keepX K23 ala0).keepX K25 ala0) (((((((((X8.ext E15).keep K16).keep K17).keep K18).keep K19).keep K20).keep K22).keep K23).keep K25) (((((((((F8_left.ext E15).keep K16 nin0).keep K17 nin0).keep K18 (ninS (neA (by omega)) nin0)).keep K19 nin0).keep K20 nin0).keep K22 nin0).keep K23 nin0).keep K25 nin0) (((((((((F8_right.ext E15).keep K16 nin0).keep K17 nin0).keep K18 (ninS (neA (by omega)) nin0)).keep K19 nin0).keep K20 nin0).keep K22 nin0).keep K23 nin0).keep K25 nin0) (((((((((((Sv6.keepX K7 ala0).keepX K8 (ala ⟨neA (by omega), NB.exa ((A5.keep K6).keep K7) (wd hw 5 rfl)⟩ (ala0))).ext E15).keepX K16 ala0).keepX K17 ala0).keepX K18 (ala ⟨neA (by omega), NB.exa ((A15.keep K16).keep K17) (wd hw 5 rfl)⟩ (ala0))).keepX K19 ala0).keepX K20 ala0).keepX K22 ala0).keepX K23 ala0).keepX K25 ala0) ((((((((((Sv7.keepX K8 (ala ⟨neA (by omega), NB.exa ((A5.keep K6).keep K7) (wd hw 5 rfl)⟩ (ala0))).ext E15).keepX K16 ala0).keepX K17 ala0).keepX K18 (ala ⟨neA (by omega), NB.exa ((A15.keep K16).keep K17) (wd hw 5 rfl)⟩ (ala0))).keepX K19 ala0).keepX K20 ala0).keepX K22 ala0).keepX K23 ala0).keepX K25 ala0)) W25.warm (wd hw 50 rfl) (wd hw 6 rfl) (by decide) (by decide)) (((((X18.keep K19).keep K20).keep K22).keep K23).keep K25) (by rw [hml]; rfl) [(.ref a5)] [] (lenOf pd3 rfl) rfl rfl (Nat.le_of_eq rfl) 193 (hb hby at_190) rfl (by decide) (by decide) (fun _ q => nomatch q) ?_
            intro v27 T27 h27 W27 K27 Ch27 Q27
            have H27 := W27.here; have z27 := K27.1
            obtain rfl : _ = _ := Q27
            show Goes p e below (PostW s Z consts_1 h0 [] (Q0 Z cz p0 p1 p2 p3 p4 h0) room_1.cells room_1.slots) (T27.setTop (mkF m 193 #[.val (.int p0), .val (.int p1), .val (.int p2), .val (.int p3), .val (.int p4), .val (.int v2), .val (.int v4), .val (.ref a5), .val (.int v9), .val (.ref a15), .val (.int (1 : Int32))] [(.int (if ((strL v2) = (strL p0) ∧ (strL v4) = (strL p1)) ∨ ((strL v2) = (strL p1) ∧ (strL v4) = (strL p0)) then (1 : Int32) else (0 : Int32)))]))
            refine G.iload H27 hx 195 (hb hby at_193) rfl rfl ?_
            by_cases c195_28 : (if ((strL v2) = (strL p0) ∧ (strL v4) = (strL p1)) ∨ ((strL v2) = (strL p1) ∧ (strL v4) = (strL p0)) then (1 : Int32) else (0 : Int32)) = (1 : Int32)
            ·
              refine G.icmpN H27 hx 198 (hb hby at_195) (teq c195_28).2 rfl ?_
              refine G.iconst H27 hx 199 (1 : Int32) (hb hby at_198) rfl rfl ?_
              refine G.goto H27 hx 203 (hb hby at_199) (by decide) rfl ?_
              exact Wk.retNW W27 hx hEL (1 : Int32) (t := .boolean) rfl (by simp) hret hlk (hb hby at_203) (by decide) (by decide) rfl
            ·
              refine G.icmpY H27 hx 202 (hb hby at_195) (feq c195_28).2 (by decide) rfl ?_
              refine G.iconst H27 hx 203 (0 : Int32) (hb hby at_202) rfl rfl ?_
              exact Wk.retNW W27 hx hEL (0 : Int32) (t := .boolean) rfl (by simp) hret hlk (hb hby at_203) (by decide) (by decide) (by unfold Q0; exfalso; simp only [own_key, own_i1, own_i01] at c128_21 c140_24 c183_26 c195_28; grind)
          ·
            refine G.icmpY H25 hx 202 (hb hby at_183) (feq c183_26).2 (by decide) rfl ?_
            refine G.iconst H25 hx 203 (0 : Int32) (hb hby at_202) rfl rfl ?_
            exact Wk.retNW W25 hx hEL (0 : Int32) (t := .boolean) rfl (by simp) hret hlk (hb hby at_203) (by decide) (by decide) (by unfold Q0; exfalso; simp only [own_key, own_i1, own_i01] at c128_21 c140_24 c183_26; grind)
        ·
          refine G.icmpN H23 hx 143 (hb hby at_140) (feq c140_24).1 rfl ?_
          refine G.iloadN H23 hx 144 (hb hby at_143) rfl rfl ?_
          refine Wk.callS W23 hx hoZ (y := (⟨"com/example/federation/federation/PropertyConditionEqualsPinLaw", "key", "(I)I"⟩ : MethodName)) (wd hw 43 rfl) (wd hw 44 rfl) (wd hw 2 rfl) (wd hw 45 rfl) (by decide) (Wd := 0) (CN.back (rmkey l Z a0 hw p0 h23 W23.old ) W23.warm (wd hw 45 rfl) (wd hw 2 rfl) (by decide) (by decide)) (by rw [hml]; rfl) [(.int p0)] [] (lenOf pd1 rfl) rfl rfl (Nat.le_of_eq rfl) 147 (hb hby at_144) rfl (by decide) (by decide) (fun _ q => nomatch q) ?_
          intro v29 T29 h29 W29 K29 Ch29 Q29
          have H29 := W29.here; have z29 := K29.1
          obtain ⟨rfl, eh29⟩ := Q29
          show Goes p e below (PostW s Z consts_1 h0 [] (Q0 Z cz p0 p1 p2 p3 p4 h0) room_1.cells room_1.slots) (T29.setTop (mkF m 147 #[.val (.int p0), .val (.int p1), .val (.int p2), .val (.int p3), .val (.int p4), .val (.int v2), .val (.int v4), .val (.ref a5), .val (.int v9), .val (.ref a15), .unset] [(.int (f_key p0))]))
          refine G.iload H29 hx 149 (hb hby at_147) rfl rfl ?_
          refine Wk.callS W29 hx hoZ (y := (⟨"com/example/federation/federation/PropertyConditionEqualsPinLaw", "key", "(I)I"⟩ : MethodName)) (wd hw 43 rfl) (wd hw 44 rfl) (wd hw 2 rfl) (wd hw 45 rfl) (by decide) (Wd := 1) (CN.back (rmkey l Z a0 hw v4 h29 W29.old ) W29.warm (wd hw 45 rfl) (wd hw 2 rfl) (by decide) (by decide)) (by rw [hml]; rfl) [(.int v4)] [(.int (f_key p0))] (lenOf pd1 rfl) rfl rfl (Nat.le_of_eq rfl) 152 (hb hby at_149) rfl (by decide) (by decide) (fun _ q => nomatch q) ?_
          intro v30 T30 h30 W30 K30 Ch30 Q30
          have H30 := W30.here; have z30 := K30.1
          obtain ⟨rfl, eh30⟩ := Q30
          show Goes p e below (PostW s Z consts_1 h0 [] (Q0 Z cz p0 p1 p2 p3 p4 h0) room_1.cells room_1.slots) (T30.setTop (mkF m 152 #[.val (.int p0), .val (.int p1), .val (.int p2), .val (.int p3), .val (.int p4), .val (.int v2), .val (.int v4), .val (.ref a5), .val (.int v9), .val (.ref a15), .unset] [(.int (f_key v4)), (.int (f_key p0))]))
          by_cases c152_31 : (f_key p0) = (f_key v4)
          ·
            refine G.icmpN H30 hx 155 (hb hby at_152) (teq c152_31).2 rfl ?_
            refine G.iloadN H30 hx 156 (hb hby at_155) rfl rfl ?_
            refine Wk.callS W30 hx hoZ (y := (⟨"com/example/federation/federation/PropertyConditionEqualsPinLaw", "key", "(I)I"⟩ : MethodName)) (wd hw 43 rfl) (wd hw 44 rfl) (wd hw 2 rfl) (wd hw 45 rfl) (by decide) (Wd := 0) (CN.back (rmkey l Z a0 hw p1 h30 W30.old ) W30.warm (wd hw 45 rfl) (wd hw 2 rfl) (by decide) (by decide)) (by rw [hml]; rfl) [(.int p1)] [] (lenOf pd1 rfl) rfl rfl (Nat.le_of_eq rfl) 159 (hb hby at_156) rfl (by decide) (by decide) (fun _ q => nomatch q) ?_
            intro v32 T32 h32 W32 K32 Ch32 Q32
            have H32 := W32.here; have z32 := K32.1
            obtain ⟨rfl, eh32⟩ := Q32
            show Goes p e below (PostW s Z consts_1 h0 [] (Q0 Z cz p0 p1 p2 p3 p4 h0) room_1.cells room_1.slots) (T32.setTop (mkF m 159 #[.val (.int p0), .val (.int p1), .val (.int p2), .val (.int p3), .val (.int p4), .val (.int v2), .val (.int v4), .val (.ref a5), .val (.int v9), .val (.ref a15), .unset] [(.int (f_key p1))]))
            refine G.iload H32 hx 161 (hb hby at_159) rfl rfl ?_
            refine Wk.callS W32 hx hoZ (y := (⟨"com/example/federation/federation/PropertyConditionEqualsPinLaw", "key", "(I)I"⟩ : MethodName)) (wd hw 43 rfl) (wd hw 44 rfl) (wd hw 2 rfl) (wd hw 45 rfl) (by decide) (Wd := 1) (CN.back (rmkey l Z a0 hw v2 h32 W32.old ) W32.warm (wd hw 45 rfl) (wd hw 2 rfl) (by decide) (by decide)) (by rw [hml]; rfl) [(.int v2)] [(.int (f_key p1))] (lenOf pd1 rfl) rfl rfl (Nat.le_of_eq rfl) 164 (hb hby at_161) rfl (by decide) (by decide) (fun _ q => nomatch q) ?_
            intro v33 T33 h33 W33 K33 Ch33 Q33
            have H33 := W33.here; have z33 := K33.1
            obtain ⟨rfl, eh33⟩ := Q33
            show Goes p e below (PostW s Z consts_1 h0 [] (Q0 Z cz p0 p1 p2 p3 p4 h0) room_1.cells room_1.slots) (T33.setTop (mkF m 164 #[.val (.int p0), .val (.int p1), .val (.int p2), .val (.int p3), .val (.int p4), .val (.int v2), .val (.int v4), .val (.ref a5), .val (.int v9), .val (.ref a15), .unset] [(.int (f_key v2)), (.int (f_key p1))]))
            by_cases c164_34 : (f_key p1) = (f_key v2)
            ·
              refine G.icmpN H33 hx 167 (hb hby at_164) (teq c164_34).2 rfl ?_
              refine G.iconst H33 hx 168 (1 : Int32) (hb hby at_167) rfl rfl ?_
              refine G.goto H33 hx 172 (hb hby at_168) (by decide) rfl ?_
              refine G.istoreX H33 hx 174 #[.val (.int p0), .val (.int p1), .val (.int p2), .val (.int p3), .val (.int p4), .val (.int v2), .val (.int v4), .val (.ref a5), .val (.int v9), .val (.ref a15), .val (.int (1 : Int32))] (hb hby at_172) rfl rfl ?_
              refine G.aload H33 hx 176 (hb hby at_174) rfl rfl rfl ?_
              refine G.aload H33 hx 178 (hb hby at_176) rfl rfl rfl ?_
              refine Wk.virtual W33 hx hoZ (y := (⟨"com/example/federation/federation/PropertyCondition", "equals", "(Ljava/lang/Object;)Z"⟩ : MethodName)) (z := (⟨"com/example/federation/federation/PropertyCondition", "equals", "(Ljava/lang/Object;)Z"⟩ : MethodName)) (wd hw 46 rfl) (wd hw 47 rfl) (wd hw 49 rfl) (wd hw 48 rfl) (W33.nf (wd hw 49 rfl)) (by decide) (Wd := 0) (CN.back (rmEqP l Z a0 hw cz a5 a15 a6 a7 a16 a17 (strL p0) (strL p1) (strL v2) (strL v4) h33 W33.old hCS hcz ((((((((((((X8.ext E15).keep K16).keep K17).keep K18).keep K19).keep K20).keep K22).keep K23).keep K29).keep K30).keep K32).keep K33) ((((((((((((F8_left.ext E15).keep K16 nin0).keep K17 nin0).keep K18 (ninS (neA (by omega)) nin0)).keep K19 nin0).keep K20 nin0).keep K22 nin0).keep K23 nin0).keep K29 nin0).keep K30 nin0).keep K32 nin0).keep K33 nin0) ((((((((((((F8_right.ext E15).keep K16 nin0).keep K17 nin0).keep K18 (ninS (neA (by omega)) nin0)).keep K19 nin0).keep K20 nin0).keep K22 nin0).keep K23 nin0).keep K29 nin0).keep K30 nin0).keep K32 nin0).keep K33 nin0) ((((((((((((((Sv6.keepX K7 ala0).keepX K8 (ala ⟨neA (by omega), NB.exa ((A5.keep K6).keep K7) (wd hw 5 rfl)⟩ (ala0))).ext E15).keepX K16 ala0).keepX K17 ala0).keepX K18 (ala ⟨neA (by omega), NB.exa ((A15.keep K16).keep K17) (wd hw 5 rfl)⟩ (ala0))).keepX K19 ala0).keepX K20 ala0).keepX K22 ala0).keepX K23 ala0).keepX K29 ala0).keepX K30 ala0).keepX K32 ala0).keepX K33 ala0) (((((((((((((Sv7.keepX K8 (ala ⟨neA (by omega), NB.exa ((A5.keep K6).keep K7) (wd hw 5 rfl)⟩ (ala0))).ext E15).keepX K16 ala0).keepX K17 ala0).keepX K18 (ala ⟨neA (by omega), NB.exa ((A15.keep K16).keep K17) (wd hw 5 rfl)⟩ (ala0))).keepX K19 ala0).keepX K20 ala0).keepX K22 ala0).keepX K23 ala0).keepX K29 ala0).keepX K30 ala0).keepX K32 ala0).keepX K33 ala0) ((((((((X18.keep K19).keep K20).keep K22).keep K23).keep K29).keep K30).keep K32).keep K33) ((((((((F18_left.keep K19 nin0).keep K20 nin0).keep K22 nin0).keep K23 nin0).keep K29 nin0).keep K30 nin0).keep K32 nin0).keep K33 nin0) ((((((((F18_right.keep K19 nin0).keep K20 nin0).keep K22 nin0).keep K23 nin0).keep K29 nin0).keep K30 nin0).keep K32 nin0).keep K33 nin0) ((((((((((Sv16.keepX K17 ala0).keepX K18 (ala ⟨neA (by omega), NB.exa ((A15.keep K16).keep K17) (wd hw 5 rfl)⟩ (ala0))).keepX K19 ala0).keepX K20 ala0).keepX K22 ala0).keepX K23 ala0).keepX K29 ala0).keepX K30 ala0).keepX K32 ala0).keepX K33 ala0) (((((((((Sv17.keepX K18 (ala ⟨neA (by omega), NB.exa ((A15.keep K16).keep K17) (wd hw 5 rfl)⟩ (ala0))).keepX K19 ala0).keepX K20 ala0).keepX K22 ala0).keepX K23 ala0).keepX K29 ala0).keepX K30 ala0).keepX K32 ala0).keepX K33 ala0)) W33.warm (wd hw 50 rfl) (wd hw 6 rfl) (by decide) (by decide)) ((((((((((((X8.ext E15).keep K16).keep K17).keep K18).keep K19).keep K20).keep K22).keep K23).keep K29).keep K30).keep K32).keep K33) (by rw [hml]; rfl) [(.ref a15)] [] (lenOf pd3 rfl) rfl rfl (Nat.le_of_eq rfl) 181 (hb hby at_178) rfl (by decide) (by decide) (fun _ q => nomatch q) ?_
              intro v35 T35 h35 W35 K35 Ch35 Q35
              have H35 := W35.here; have z35 := K35.1
              obtain rfl : _ = _ := Q35
              show Goes p e below (PostW s Z consts_1 h0 [] (Q0 Z cz p0 p1 p2 p3 p4 h0) room_1.cells room_1.slots) (T35.setTop (mkF m 181 #[.val (.int p0), .val (.int p1), .val (.int p2), .val (.int p3), .val (.int p4), .val (.int v2), .val (.int v4), .val (.ref a5), .val (.int v9), .val (.ref a15), .val (.int (1 : Int32))] [(.int (if ((strL p0) = (strL v2) ∧ (strL p1) = (strL v4)) ∨ ((strL p0) = (strL v4) ∧ (strL p1) = (strL v2)) then (1 : Int32) else (0 : Int32)))]))
              refine G.iload H35 hx 183 (hb hby at_181) rfl rfl ?_
              by_cases c183_36 : (if ((strL p0) = (strL v2) ∧ (strL p1) = (strL v4)) ∨ ((strL p0) = (strL v4) ∧ (strL p1) = (strL v2)) then (1 : Int32) else (0 : Int32)) = (1 : Int32)
              ·
                refine G.icmpN H35 hx 186 (hb hby at_183) (teq c183_36).2 rfl ?_
                refine G.aload H35 hx 188 (hb hby at_186) rfl rfl rfl ?_
                refine G.aload H35 hx 190 (hb hby at_188) rfl rfl rfl ?_
                refine Wk.virtual W35 hx hoZ (y := (⟨"com/example/federation/federation/PropertyCondition", "equals", "(Ljava/lang/Object;)Z"⟩ : MethodName)) (z := (⟨"com/example/federation/federation/PropertyCondition", "equals", "(Ljava/lang/Object;)Z"⟩ : MethodName)) (wd hw 46 rfl) (wd hw 47 rfl) (wd hw 49 rfl) (wd hw 48 rfl) (W35.nf (wd hw 49 rfl)) (by decide) (Wd := 0) (CN.back (rmEqP l Z a0 hw cz a15 a5 a16 a17 a6 a7 (strL v2) (strL v4) (strL p0) (strL p1) h35 W35.old hCS hcz (((((((((X18.keep K19).keep K20).keep K22).keep K23).keep K29).keep K30).keep K32).keep K33).keep K35) (((((((((F18_left.keep K19 nin0).keep K20 nin0).keep K22 nin0).keep K23 nin0).keep K29 nin0).keep K30 nin0).keep K32 nin0).keep K33 nin0).keep K35 nin0) (((((((((F18_right.keep K19 nin0).keep K20 nin0).keep K22 nin0).keep K23 nin0).keep K29 nin0).keep K30 nin0).keep K32 nin0).keep K33 nin0).keep K35 nin0) (((((((((((Sv16.keepX K17 ala0).keepX K18 (ala ⟨neA (by omega), NB.exa ((A15.keep K16).keep K17) (wd hw 5 rfl)⟩ (ala0))).keepX K19 ala0).keepX K20 ala0).keepX K22 ala0).keepX K23 ala0).keepX K29 ala0).keepX K30 ala0).keepX K32 ala0).keepX K33 ala0).keepX K35 ala0) ((((((((((Sv17.keepX K18 (ala ⟨neA (by omega), NB.exa ((A15.keep K16).keep K17) (wd hw 5 rfl)⟩ (ala0))).keepX K19 ala0).keepX K20 ala0).keepX K22 ala0).keepX K23 ala0).keepX K29 ala0).keepX K30 ala0).keepX K32 ala0).keepX K33 ala0).keepX K35 ala0) (((((((((((((X8.ext E15).keep K16).keep K17).keep K18).keep K19).keep K20).keep K22).keep K23).keep K29).keep K30).keep K32).keep K33).keep K35) (((((((((((((F8_left.ext E15).keep K16 nin0).keep K17 nin0).keep K18 (ninS (neA (by omega)) nin0)).keep K19 nin0).keep K20 nin0).keep K22 nin0).keep K23 nin0).keep K29 nin0).keep K30 nin0).keep K32 nin0).keep K33 nin0).keep K35 nin0) (((((((((((((F8_right.ext E15).keep K16 nin0).keep K17 nin0).keep K18 (ninS (neA (by omega)) nin0)).keep K19 nin0).keep K20 nin0).keep K22 nin0).keep K23 nin0).keep K29 nin0).keep K30 nin0).keep K32 nin0).keep K33 nin0).keep K35 nin0) (((((((((((((((Sv6.keepX K7 ala0).keepX K8 (ala ⟨neA (by omega), NB.exa ((A5.keep K6).keep K7) (wd hw 5 rfl)⟩ (ala0))).ext E15).keepX K16 ala0).keepX K17 ala0).keepX K18 (ala ⟨neA (by omega), NB.exa ((A15.keep K16).keep K17) (wd hw 5 rfl)⟩ (ala0))).keepX K19 ala0).keepX K20 ala0).keepX K22 ala0).keepX K23 ala0).keepX K29 ala0).keepX K30 ala0).keepX K32 ala0).keepX K33 ala0).keepX K35 ala0) ((((((((((((((Sv7.keepX K8 (ala ⟨neA (by omega), NB.exa ((A5.keep K6).keep K7) (wd hw 5 rfl)⟩ (ala0))).ext E15).keepX K16 ala0).keepX K17 ala0).keepX K18 (ala ⟨neA (by omega), NB.exa ((A15.keep K16).keep K17) (wd hw 5 rfl)⟩ (ala0))).keepX K19 ala0).keepX K20 ala0).keepX K22 ala0).keepX K23 ala0).keepX K29 ala0).keepX K30 ala0).keepX K32 ala0).keepX K33 ala0).keepX K35 ala0)) W35.warm (wd hw 50 rfl) (wd hw 6 rfl) (by decide) (by decide)) (((((((((X18.keep K19).keep K20).keep K22).keep K23).keep K29).keep K30).keep K32).keep K33).keep K35) (by rw [hml]; rfl) [(.ref a5)] [] (lenOf pd3 rfl) rfl rfl (Nat.le_of_eq rfl) 193 (hb hby at_190) rfl (by decide) (by decide) (fun _ q => nomatch q) ?_
                intro v37 T37 h37 W37 K37 Ch37 Q37
                have H37 := W37.here; have z37 := K37.1
                obtain rfl : _ = _ := Q37
                show Goes p e below (PostW s Z consts_1 h0 [] (Q0 Z cz p0 p1 p2 p3 p4 h0) room_1.cells room_1.slots) (T37.setTop (mkF m 193 #[.val (.int p0), .val (.int p1), .val (.int p2), .val (.int p3), .val (.int p4), .val (.int v2), .val (.int v4), .val (.ref a5), .val (.int v9), .val (.ref a15), .val (.int (1 : Int32))] [(.int (if ((strL v2) = (strL p0) ∧ (strL v4) = (strL p1)) ∨ ((strL v2) = (strL p1) ∧ (strL v4) = (strL p0)) then (1 : Int32) else (0 : Int32)))]))
                refine G.iload H37 hx 195 (hb hby at_193) rfl rfl ?_
                by_cases c195_38 : (if ((strL v2) = (strL p0) ∧ (strL v4) = (strL p1)) ∨ ((strL v2) = (strL p1) ∧ (strL v4) = (strL p0)) then (1 : Int32) else (0 : Int32)) = (1 : Int32)
                ·
                  refine G.icmpN H37 hx 198 (hb hby at_195) (teq c195_38).2 rfl ?_
                  refine G.iconst H37 hx 199 (1 : Int32) (hb hby at_198) rfl rfl ?_
                  refine G.goto H37 hx 203 (hb hby at_199) (by decide) rfl ?_
                  exact Wk.retNW W37 hx hEL (1 : Int32) (t := .boolean) rfl (by simp) hret hlk (hb hby at_203) (by decide) (by decide) rfl
                ·
                  refine G.icmpY H37 hx 202 (hb hby at_195) (feq c195_38).2 (by decide) rfl ?_
                  refine G.iconst H37 hx 203 (0 : Int32) (hb hby at_202) rfl rfl ?_
                  exact Wk.retNW W37 hx hEL (0 : Int32) (t := .boolean) rfl (by simp) hret hlk (hb hby at_203) (by decide) (by decide) (by unfold Q0; exfalso; simp only [own_key, own_i1, own_i01] at c128_21 c140_24 c152_31 c164_34 c183_36 c195_38; grind)
              ·
                refine G.icmpY H35 hx 202 (hb hby at_183) (feq c183_36).2 (by decide) rfl ?_
                refine G.iconst H35 hx 203 (0 : Int32) (hb hby at_202) rfl rfl ?_
                exact Wk.retNW W35 hx hEL (0 : Int32) (t := .boolean) rfl (by simp) hret hlk (hb hby at_203) (by decide) (by decide) (by unfold Q0; exfalso; simp only [own_key, own_i1, own_i01] at c128_21 c140_24 c152_31 c164_34 c183_36; grind)
            ·
              refine G.icmpY H33 hx 171 (hb hby at_164) (feq c164_34).2 (by decide) rfl ?_
              refine G.iconst H33 hx 172 (0 : Int32) (hb hby at_171) rfl rfl ?_
              refine G.istoreX H33 hx 174 #[.val (.int p0), .val (.int p1), .val (.int p2), .val (.int p3), .val (.int p4), .val (.int v2), .val (.int v4), .val (.ref a5), .val (.int v9), .val (.ref a15), .val (.int (0 : Int32))] (hb hby at_172) rfl rfl ?_
              refine G.aload H33 hx 176 (hb hby at_174) rfl rfl rfl ?_
              refine G.aload H33 hx 178 (hb hby at_176) rfl rfl rfl ?_
              refine Wk.virtual W33 hx hoZ (y := (⟨"com/example/federation/federation/PropertyCondition", "equals", "(Ljava/lang/Object;)Z"⟩ : MethodName)) (z := (⟨"com/example/federation/federation/PropertyCondition", "equals", "(Ljava/lang/Object;)Z"⟩ : MethodName)) (wd hw 46 rfl) (wd hw 47 rfl) (wd hw 49 rfl) (wd hw 48 rfl) (W33.nf (wd hw 49 rfl)) (by decide) (Wd := 0) (CN.back (rmEqP l Z a0 hw cz a5 a15 a6 a7 a16 a17 (strL p0) (strL p1) (strL v2) (strL v4) h33 W33.old hCS hcz ((((((((((((X8.ext E15).keep K16).keep K17).keep K18).keep K19).keep K20).keep K22).keep K23).keep K29).keep K30).keep K32).keep K33) ((((((((((((F8_left.ext E15).keep K16 nin0).keep K17 nin0).keep K18 (ninS (neA (by omega)) nin0)).keep K19 nin0).keep K20 nin0).keep K22 nin0).keep K23 nin0).keep K29 nin0).keep K30 nin0).keep K32 nin0).keep K33 nin0) ((((((((((((F8_right.ext E15).keep K16 nin0).keep K17 nin0).keep K18 (ninS (neA (by omega)) nin0)).keep K19 nin0).keep K20 nin0).keep K22 nin0).keep K23 nin0).keep K29 nin0).keep K30 nin0).keep K32 nin0).keep K33 nin0) ((((((((((((((Sv6.keepX K7 ala0).keepX K8 (ala ⟨neA (by omega), NB.exa ((A5.keep K6).keep K7) (wd hw 5 rfl)⟩ (ala0))).ext E15).keepX K16 ala0).keepX K17 ala0).keepX K18 (ala ⟨neA (by omega), NB.exa ((A15.keep K16).keep K17) (wd hw 5 rfl)⟩ (ala0))).keepX K19 ala0).keepX K20 ala0).keepX K22 ala0).keepX K23 ala0).keepX K29 ala0).keepX K30 ala0).keepX K32 ala0).keepX K33 ala0) (((((((((((((Sv7.keepX K8 (ala ⟨neA (by omega), NB.exa ((A5.keep K6).keep K7) (wd hw 5 rfl)⟩ (ala0))).ext E15).keepX K16 ala0).keepX K17 ala0).keepX K18 (ala ⟨neA (by omega), NB.exa ((A15.keep K16).keep K17) (wd hw 5 rfl)⟩ (ala0))).keepX K19 ala0).keepX K20 ala0).keepX K22 ala0).keepX K23 ala0).keepX K29 ala0).keepX K30 ala0).keepX K32 ala0).keepX K33 ala0) ((((((((X18.keep K19).keep K20).keep K22).keep K23).keep K29).keep K30).keep K32).keep K33) ((((((((F18_left.keep K19 nin0).keep K20 nin0).keep K22 nin0).keep K23 nin0).keep K29 nin0).keep K30 nin0).keep K32 nin0).keep K33 nin0) ((((((((F18_right.keep K19 nin0).keep K20 nin0).keep K22 nin0).keep K23 nin0).keep K29 nin0).keep K30 nin0).keep K32 nin0).keep K33 nin0) ((((((((((Sv16.keepX K17 ala0).keepX K18 (ala ⟨neA (by omega), NB.exa ((A15.keep K16).keep K17) (wd hw 5 rfl)⟩ (ala0))).keepX K19 ala0).keepX K20 ala0).keepX K22 ala0).keepX K23 ala0).keepX K29 ala0).keepX K30 ala0).keepX K32 ala0).keepX K33 ala0) (((((((((Sv17.keepX K18 (ala ⟨neA (by omega), NB.exa ((A15.keep K16).keep K17) (wd hw 5 rfl)⟩ (ala0))).keepX K19 ala0).keepX K20 ala0).keepX K22 ala0).keepX K23 ala0).keepX K29 ala0).keepX K30 ala0).keepX K32 ala0).keepX K33 ala0)) W33.warm (wd hw 50 rfl) (wd hw 6 rfl) (by decide) (by decide)) ((((((((((((X8.ext E15).keep K16).keep K17).keep K18).keep K19).keep K20).keep K22).keep K23).keep K29).keep K30).keep K32).keep K33) (by rw [hml]; rfl) [(.ref a15)] [] (lenOf pd3 rfl) rfl rfl (Nat.le_of_eq rfl) 181 (hb hby at_178) rfl (by decide) (by decide) (fun _ q => nomatch q) ?_
              intro v39 T39 h39 W39 K39 Ch39 Q39
              have H39 := W39.here; have z39 := K39.1
              obtain rfl : _ = _ := Q39
              show Goes p e below (PostW s Z consts_1 h0 [] (Q0 Z cz p0 p1 p2 p3 p4 h0) room_1.cells room_1.slots) (T39.setTop (mkF m 181 #[.val (.int p0), .val (.int p1), .val (.int p2), .val (.int p3), .val (.int p4), .val (.int v2), .val (.int v4), .val (.ref a5), .val (.int v9), .val (.ref a15), .val (.int (0 : Int32))] [(.int (if ((strL p0) = (strL v2) ∧ (strL p1) = (strL v4)) ∨ ((strL p0) = (strL v4) ∧ (strL p1) = (strL v2)) then (1 : Int32) else (0 : Int32)))]))
              refine G.iload H39 hx 183 (hb hby at_181) rfl rfl ?_
              by_cases c183_40 : (if ((strL p0) = (strL v2) ∧ (strL p1) = (strL v4)) ∨ ((strL p0) = (strL v4) ∧ (strL p1) = (strL v2)) then (1 : Int32) else (0 : Int32)) = (0 : Int32)
              ·
                refine G.icmpN H39 hx 186 (hb hby at_183) (teq c183_40).2 rfl ?_
                refine G.aload H39 hx 188 (hb hby at_186) rfl rfl rfl ?_
                refine G.aload H39 hx 190 (hb hby at_188) rfl rfl rfl ?_
                refine Wk.virtual W39 hx hoZ (y := (⟨"com/example/federation/federation/PropertyCondition", "equals", "(Ljava/lang/Object;)Z"⟩ : MethodName)) (z := (⟨"com/example/federation/federation/PropertyCondition", "equals", "(Ljava/lang/Object;)Z"⟩ : MethodName)) (wd hw 46 rfl) (wd hw 47 rfl) (wd hw 49 rfl) (wd hw 48 rfl) (W39.nf (wd hw 49 rfl)) (by decide) (Wd := 0) (CN.back (rmEqP l Z a0 hw cz a15 a5 a16 a17 a6 a7 (strL v2) (strL v4) (strL p0) (strL p1) h39 W39.old hCS hcz (((((((((X18.keep K19).keep K20).keep K22).keep K23).keep K29).keep K30).keep K32).keep K33).keep K39) (((((((((F18_left.keep K19 nin0).keep K20 nin0).keep K22 nin0).keep K23 nin0).keep K29 nin0).keep K30 nin0).keep K32 nin0).keep K33 nin0).keep K39 nin0) (((((((((F18_right.keep K19 nin0).keep K20 nin0).keep K22 nin0).keep K23 nin0).keep K29 nin0).keep K30 nin0).keep K32 nin0).keep K33 nin0).keep K39 nin0) (((((((((((Sv16.keepX K17 ala0).keepX K18 (ala ⟨neA (by omega), NB.exa ((A15.keep K16).keep K17) (wd hw 5 rfl)⟩ (ala0))).keepX K19 ala0).keepX K20 ala0).keepX K22 ala0).keepX K23 ala0).keepX K29 ala0).keepX K30 ala0).keepX K32 ala0).keepX K33 ala0).keepX K39 ala0) ((((((((((Sv17.keepX K18 (ala ⟨neA (by omega), NB.exa ((A15.keep K16).keep K17) (wd hw 5 rfl)⟩ (ala0))).keepX K19 ala0).keepX K20 ala0).keepX K22 ala0).keepX K23 ala0).keepX K29 ala0).keepX K30 ala0).keepX K32 ala0).keepX K33 ala0).keepX K39 ala0) (((((((((((((X8.ext E15).keep K16).keep K17).keep K18).keep K19).keep K20).keep K22).keep K23).keep K29).keep K30).keep K32).keep K33).keep K39) (((((((((((((F8_left.ext E15).keep K16 nin0).keep K17 nin0).keep K18 (ninS (neA (by omega)) nin0)).keep K19 nin0).keep K20 nin0).keep K22 nin0).keep K23 nin0).keep K29 nin0).keep K30 nin0).keep K32 nin0).keep K33 nin0).keep K39 nin0) (((((((((((((F8_right.ext E15).keep K16 nin0).keep K17 nin0).keep K18 (ninS (neA (by omega)) nin0)).keep K19 nin0).keep K20 nin0).keep K22 nin0).keep K23 nin0).keep K29 nin0).keep K30 nin0).keep K32 nin0).keep K33 nin0).keep K39 nin0) (((((((((((((((Sv6.keepX K7 ala0).keepX K8 (ala ⟨neA (by omega), NB.exa ((A5.keep K6).keep K7) (wd hw 5 rfl)⟩ (ala0))).ext E15).keepX K16 ala0).keepX K17 ala0).keepX K18 (ala ⟨neA (by omega), NB.exa ((A15.keep K16).keep K17) (wd hw 5 rfl)⟩ (ala0))).keepX K19 ala0).keepX K20 ala0).keepX K22 ala0).keepX K23 ala0).keepX K29 ala0).keepX K30 ala0).keepX K32 ala0).keepX K33 ala0).keepX K39 ala0) ((((((((((((((Sv7.keepX K8 (ala ⟨neA (by omega), NB.exa ((A5.keep K6).keep K7) (wd hw 5 rfl)⟩ (ala0))).ext E15).keepX K16 ala0).keepX K17 ala0).keepX K18 (ala ⟨neA (by omega), NB.exa ((A15.keep K16).keep K17) (wd hw 5 rfl)⟩ (ala0))).keepX K19 ala0).keepX K20 ala0).keepX K22 ala0).keepX K23 ala0).keepX K29 ala0).keepX K30 ala0).keepX K32 ala0).keepX K33 ala0).keepX K39 ala0)) W39.warm (wd hw 50 rfl) (wd hw 6 rfl) (by decide) (by decide)) (((((((((X18.keep K19).keep K20).keep K22).keep K23).keep K29).keep K30).keep K32).keep K33).keep K39) (by rw [hml]; rfl) [(.ref a5)] [] (lenOf pd3 rfl) rfl rfl (Nat.le_of_eq rfl) 193 (hb hby at_190) rfl (by decide) (by decide) (fun _ q => nomatch q) ?_
                intro v41 T41 h41 W41 K41 Ch41 Q41
                have H41 := W41.here; have z41 := K41.1
                obtain rfl : _ = _ := Q41
                show Goes p e below (PostW s Z consts_1 h0 [] (Q0 Z cz p0 p1 p2 p3 p4 h0) room_1.cells room_1.slots) (T41.setTop (mkF m 193 #[.val (.int p0), .val (.int p1), .val (.int p2), .val (.int p3), .val (.int p4), .val (.int v2), .val (.int v4), .val (.ref a5), .val (.int v9), .val (.ref a15), .val (.int (0 : Int32))] [(.int (if ((strL v2) = (strL p0) ∧ (strL v4) = (strL p1)) ∨ ((strL v2) = (strL p1) ∧ (strL v4) = (strL p0)) then (1 : Int32) else (0 : Int32)))]))
                refine G.iload H41 hx 195 (hb hby at_193) rfl rfl ?_
                by_cases c195_42 : (if ((strL v2) = (strL p0) ∧ (strL v4) = (strL p1)) ∨ ((strL v2) = (strL p1) ∧ (strL v4) = (strL p0)) then (1 : Int32) else (0 : Int32)) = (0 : Int32)
                ·
                  refine G.icmpN H41 hx 198 (hb hby at_195) (teq c195_42).2 rfl ?_
                  refine G.iconst H41 hx 199 (1 : Int32) (hb hby at_198) rfl rfl ?_
                  refine G.goto H41 hx 203 (hb hby at_199) (by decide) rfl ?_
                  exact Wk.retNW W41 hx hEL (1 : Int32) (t := .boolean) rfl (by simp) hret hlk (hb hby at_203) (by decide) (by decide) rfl
                ·
                  refine G.icmpY H41 hx 202 (hb hby at_195) (feq c195_42).2 (by decide) rfl ?_
                  refine G.iconst H41 hx 203 (0 : Int32) (hb hby at_202) rfl rfl ?_
                  exact Wk.retNW W41 hx hEL (0 : Int32) (t := .boolean) rfl (by simp) hret hlk (hb hby at_203) (by decide) (by decide) (by unfold Q0; exfalso; simp only [own_key, own_i1, own_i01] at c128_21 c140_24 c152_31 c164_34 c183_40 c195_42; grind)
              ·
                refine G.icmpY H39 hx 202 (hb hby at_183) (feq c183_40).2 (by decide) rfl ?_
                refine G.iconst H39 hx 203 (0 : Int32) (hb hby at_202) rfl rfl ?_
                exact Wk.retNW W39 hx hEL (0 : Int32) (t := .boolean) rfl (by simp) hret hlk (hb hby at_203) (by decide) (by decide) (by unfold Q0; exfalso; simp only [own_key, own_i1, own_i01] at c128_21 c140_24 c152_31 c164_34 c183_40; grind)
          ·
            refine G.icmpY H30 hx 171 (hb hby at_152) (feq c152_31).2 (by decide) rfl ?_
            refine G.iconst H30 hx 172 (0 : Int32) (hb hby at_171) rfl rfl ?_
            refine G.istoreX H30 hx 174 #[.val (.int p0), .val (.int p1), .val (.int p2), .val (.int p3), .val (.int p4), .val (.int v2), .val (.int v4), .val (.ref a5), .val (.int v9), .val (.ref a15), .val (.int (0 : Int32))] (hb hby at_172) rfl rfl ?_
            refine G.aload H30 hx 176 (hb hby at_174) rfl rfl rfl ?_
            refine G.aload H30 hx 178 (hb hby at_176) rfl rfl rfl ?_
            refine Wk.virtual W30 hx hoZ (y := (⟨"com/example/federation/federation/PropertyCondition", "equals", "(Ljava/lang/Object;)Z"⟩ : MethodName)) (z := (⟨"com/example/federation/federation/PropertyCondition", "equals", "(Ljava/lang/Object;)Z"⟩ : MethodName)) (wd hw 46 rfl) (wd hw 47 rfl) (wd hw 49 rfl) (wd hw 48 rfl) (W30.nf (wd hw 49 rfl)) (by decide) (Wd := 0) (CN.back (rmEqP l Z a0 hw cz a5 a15 a6 a7 a16 a17 (strL p0) (strL p1) (strL v2) (strL v4) h30 W30.old hCS hcz ((((((((((X8.ext E15).keep K16).keep K17).keep K18).keep K19).keep K20).keep K22).keep K23).keep K29).keep K30) ((((((((((F8_left.ext E15).keep K16 nin0).keep K17 nin0).keep K18 (ninS (neA (by omega)) nin0)).keep K19 nin0).keep K20 nin0).keep K22 nin0).keep K23 nin0).keep K29 nin0).keep K30 nin0) ((((((((((F8_right.ext E15).keep K16 nin0).keep K17 nin0).keep K18 (ninS (neA (by omega)) nin0)).keep K19 nin0).keep K20 nin0).keep K22 nin0).keep K23 nin0).keep K29 nin0).keep K30 nin0) ((((((((((((Sv6.keepX K7 ala0).keepX K8 (ala ⟨neA (by omega), NB.exa ((A5.keep K6).keep K7) (wd hw 5 rfl)⟩ (ala0))).ext E15).keepX K16 ala0).keepX K17 ala0).keepX K18 (ala ⟨neA (by omega), NB.exa ((A15.keep K16).keep K17) (wd hw 5 rfl)⟩ (ala0))).keepX K19 ala0).keepX K20 ala0).keepX K22 ala0).keepX K23 ala0).keepX K29 ala0).keepX K30 ala0) (((((((((((Sv7.keepX K8 (ala ⟨neA (by omega), NB.exa ((A5.keep K6).keep K7) (wd hw 5 rfl)⟩ (ala0))).ext E15).keepX K16 ala0).keepX K17 ala0).keepX K18 (ala ⟨neA (by omega), NB.exa ((A15.keep K16).keep K17) (wd hw 5 rfl)⟩ (ala0))).keepX K19 ala0).keepX K20 ala0).keepX K22 ala0).keepX K23 ala0).keepX K29 ala0).keepX K30 ala0) ((((((X18.keep K19).keep K20).keep K22).keep K23).keep K29).keep K30) ((((((F18_left.keep K19 nin0).keep K20 nin0).keep K22 nin0).keep K23 nin0).keep K29 nin0).keep K30 nin0) ((((((F18_right.keep K19 nin0).keep K20 nin0).keep K22 nin0).keep K23 nin0).keep K29 nin0).keep K30 nin0) ((((((((Sv16.keepX K17 ala0).keepX K18 (ala ⟨neA (by omega), NB.exa ((A15.keep K16).keep K17) (wd hw 5 rfl)⟩ (ala0))).keepX K19 ala0).keepX K20 ala0).keepX K22 ala0).keepX K23 ala0).keepX K29 ala0).keepX K30 ala0) (((((((Sv17.keepX K18 (ala ⟨neA (by omega), NB.exa ((A15.keep K16).keep K17) (wd hw 5 rfl)⟩ (ala0))).keepX K19 ala0).keepX K20 ala0).keepX K22 ala0).keepX K23 ala0).keepX K29 ala0).keepX K30 ala0)) W30.warm (wd hw 50 rfl) (wd hw 6 rfl) (by decide) (by decide)) ((((((((((X8.ext E15).keep K16).keep K17).keep K18).keep K19).keep K20).keep K22).keep K23).keep K29).keep K30) (by rw [hml]; rfl) [(.ref a15)] [] (lenOf pd3 rfl) rfl rfl (Nat.le_of_eq rfl) 181 (hb hby at_178) rfl (by decide) (by decide) (fun _ q => nomatch q) ?_
            intro v43 T43 h43 W43 K43 Ch43 Q43
            have H43 := W43.here; have z43 := K43.1
            obtain rfl : _ = _ := Q43
            show Goes p e below (PostW s Z consts_1 h0 [] (Q0 Z cz p0 p1 p2 p3 p4 h0) room_1.cells room_1.slots) (T43.setTop (mkF m 181 #[.val (.int p0), .val (.int p1), .val (.int p2), .val (.int p3), .val (.int p4), .val (.int v2), .val (.int v4), .val (.ref a5), .val (.int v9), .val (.ref a15), .val (.int (0 : Int32))] [(.int (if ((strL p0) = (strL v2) ∧ (strL p1) = (strL v4)) ∨ ((strL p0) = (strL v4) ∧ (strL p1) = (strL v2)) then (1 : Int32) else (0 : Int32)))]))
            refine G.iload H43 hx 183 (hb hby at_181) rfl rfl ?_
            by_cases c183_44 : (if ((strL p0) = (strL v2) ∧ (strL p1) = (strL v4)) ∨ ((strL p0) = (strL v4) ∧ (strL p1) = (strL v2)) then (1 : Int32) else (0 : Int32)) = (0 : Int32)
            ·
              refine G.icmpN H43 hx 186 (hb hby at_183) (teq c183_44).2 rfl ?_
              refine G.aload H43 hx 188 (hb hby at_186) rfl rfl rfl ?_
              refine G.aload H43 hx 190 (hb hby at_188) rfl rfl rfl ?_
              refine Wk.virtual W43 hx hoZ (y := (⟨"com/example/federation/federation/PropertyCondition", "equals", "(Ljava/lang/Object;)Z"⟩ : MethodName)) (z := (⟨"com/example/federation/federation/PropertyCondition", "equals", "(Ljava/lang/Object;)Z"⟩ : MethodName)) (wd hw 46 rfl) (wd hw 47 rfl) (wd hw 49 rfl) (wd hw 48 rfl) (W43.nf (wd hw 49 rfl)) (by decide) (Wd := 0) (CN.back (rmEqP l Z a0 hw cz a15 a5 a16 a17 a6 a7 (strL v2) (strL v4) (strL p0) (strL p1) h43 W43.old hCS hcz (((((((X18.keep K19).keep K20).keep K22).keep K23).keep K29).keep K30).keep K43) (((((((F18_left.keep K19 nin0).keep K20 nin0).keep K22 nin0).keep K23 nin0).keep K29 nin0).keep K30 nin0).keep K43 nin0) (((((((F18_right.keep K19 nin0).keep K20 nin0).keep K22 nin0).keep K23 nin0).keep K29 nin0).keep K30 nin0).keep K43 nin0) (((((((((Sv16.keepX K17 ala0).keepX K18 (ala ⟨neA (by omega), NB.exa ((A15.keep K16).keep K17) (wd hw 5 rfl)⟩ (ala0))).keepX K19 ala0).keepX K20 ala0).keepX K22 ala0).keepX K23 ala0).keepX K29 ala0).keepX K30 ala0).keepX K43 ala0) ((((((((Sv17.keepX K18 (ala ⟨neA (by omega), NB.exa ((A15.keep K16).keep K17) (wd hw 5 rfl)⟩ (ala0))).keepX K19 ala0).keepX K20 ala0).keepX K22 ala0).keepX K23 ala0).keepX K29 ala0).keepX K30 ala0).keepX K43 ala0) (((((((((((X8.ext E15).keep K16).keep K17).keep K18).keep K19).keep K20).keep K22).keep K23).keep K29).keep K30).keep K43) (((((((((((F8_left.ext E15).keep K16 nin0).keep K17 nin0).keep K18 (ninS (neA (by omega)) nin0)).keep K19 nin0).keep K20 nin0).keep K22 nin0).keep K23 nin0).keep K29 nin0).keep K30 nin0).keep K43 nin0) (((((((((((F8_right.ext E15).keep K16 nin0).keep K17 nin0).keep K18 (ninS (neA (by omega)) nin0)).keep K19 nin0).keep K20 nin0).keep K22 nin0).keep K23 nin0).keep K29 nin0).keep K30 nin0).keep K43 nin0) (((((((((((((Sv6.keepX K7 ala0).keepX K8 (ala ⟨neA (by omega), NB.exa ((A5.keep K6).keep K7) (wd hw 5 rfl)⟩ (ala0))).ext E15).keepX K16 ala0).keepX K17 ala0).keepX K18 (ala ⟨neA (by omega), NB.exa ((A15.keep K16).keep K17) (wd hw 5 rfl)⟩ (ala0))).keepX K19 ala0).keepX K20 ala0).keepX K22 ala0).keepX K23 ala0).keepX K29 ala0).keepX K30 ala0).keepX K43 ala0) ((((((((((((Sv7.keepX K8 (ala ⟨neA (by omega), NB.exa ((A5.keep K6).keep K7) (wd hw 5 rfl)⟩ (ala0))).ext E15).keepX K16 ala0).keepX K17 ala0).keepX K18 (ala ⟨neA (by omega), NB.exa ((A15.keep K16).keep K17) (wd hw 5 rfl)⟩ (ala0))).keepX K19 ala0).keepX K20 ala0).keepX K22 ala0).keepX K23 ala0).keepX K29 ala0).keepX K30 ala0).keepX K43 ala0)) W43.warm (wd hw 50 rfl) (wd hw 6 rfl) (by decide) (by decide)) (((((((X18.keep K19).keep K20).keep K22).keep K23).keep K29).keep K30).keep K43) (by rw [hml]; rfl) [(.ref a5)] [] (lenOf pd3 rfl) rfl rfl (Nat.le_of_eq rfl) 193 (hb hby at_190) rfl (by decide) (by decide) (fun _ q => nomatch q) ?_
              intro v45 T45 h45 W45 K45 Ch45 Q45
              have H45 := W45.here; have z45 := K45.1
              obtain rfl : _ = _ := Q45
              show Goes p e below (PostW s Z consts_1 h0 [] (Q0 Z cz p0 p1 p2 p3 p4 h0) room_1.cells room_1.slots) (T45.setTop (mkF m 193 #[.val (.int p0), .val (.int p1), .val (.int p2), .val (.int p3), .val (.int p4), .val (.int v2), .val (.int v4), .val (.ref a5), .val (.int v9), .val (.ref a15), .val (.int (0 : Int32))] [(.int (if ((strL v2) = (strL p0) ∧ (strL v4) = (strL p1)) ∨ ((strL v2) = (strL p1) ∧ (strL v4) = (strL p0)) then (1 : Int32) else (0 : Int32)))]))
              refine G.iload H45 hx 195 (hb hby at_193) rfl rfl ?_
              by_cases c195_46 : (if ((strL v2) = (strL p0) ∧ (strL v4) = (strL p1)) ∨ ((strL v2) = (strL p1) ∧ (strL v4) = (strL p0)) then (1 : Int32) else (0 : Int32)) = (0 : Int32)
              ·
                refine G.icmpN H45 hx 198 (hb hby at_195) (teq c195_46).2 rfl ?_
                refine G.iconst H45 hx 199 (1 : Int32) (hb hby at_198) rfl rfl ?_
                refine G.goto H45 hx 203 (hb hby at_199) (by decide) rfl ?_
                exact Wk.retNW W45 hx hEL (1 : Int32) (t := .boolean) rfl (by simp) hret hlk (hb hby at_203) (by decide) (by decide) rfl
              ·
                refine G.icmpY H45 hx 202 (hb hby at_195) (feq c195_46).2 (by decide) rfl ?_
                refine G.iconst H45 hx 203 (0 : Int32) (hb hby at_202) rfl rfl ?_
                exact Wk.retNW W45 hx hEL (0 : Int32) (t := .boolean) rfl (by simp) hret hlk (hb hby at_203) (by decide) (by decide) (by unfold Q0; exfalso; simp only [own_key, own_i1, own_i01] at c128_21 c140_24 c152_31 c183_44 c195_46; grind)
            ·
              refine G.icmpY H43 hx 202 (hb hby at_183) (feq c183_44).2 (by decide) rfl ?_
              refine G.iconst H43 hx 203 (0 : Int32) (hb hby at_202) rfl rfl ?_
              exact Wk.retNW W43 hx hEL (0 : Int32) (t := .boolean) rfl (by simp) hret hlk (hb hby at_203) (by decide) (by decide) (by unfold Q0; exfalso; simp only [own_key, own_i1, own_i01] at c128_21 c140_24 c152_31 c183_44; grind)
      ·
        refine G.icmpY H20 hx 143 (hb hby at_128) (feq c128_21).2 (by decide) rfl ?_
        refine G.iloadN H20 hx 144 (hb hby at_143) rfl rfl ?_
        refine Wk.callS W20 hx hoZ (y := (⟨"com/example/federation/federation/PropertyConditionEqualsPinLaw", "key", "(I)I"⟩ : MethodName)) (wd hw 43 rfl) (wd hw 44 rfl) (wd hw 2 rfl) (wd hw 45 rfl) (by decide) (Wd := 0) (CN.back (rmkey l Z a0 hw p0 h20 W20.old ) W20.warm (wd hw 45 rfl) (wd hw 2 rfl) (by decide) (by decide)) (by rw [hml]; rfl) [(.int p0)] [] (lenOf pd1 rfl) rfl rfl (Nat.le_of_eq rfl) 147 (hb hby at_144) rfl (by decide) (by decide) (fun _ q => nomatch q) ?_
        intro v47 T47 h47 W47 K47 Ch47 Q47
        have H47 := W47.here; have z47 := K47.1
        obtain ⟨rfl, eh47⟩ := Q47
        show Goes p e below (PostW s Z consts_1 h0 [] (Q0 Z cz p0 p1 p2 p3 p4 h0) room_1.cells room_1.slots) (T47.setTop (mkF m 147 #[.val (.int p0), .val (.int p1), .val (.int p2), .val (.int p3), .val (.int p4), .val (.int v2), .val (.int v4), .val (.ref a5), .val (.int v9), .val (.ref a15), .unset] [(.int (f_key p0))]))
        refine G.iload H47 hx 149 (hb hby at_147) rfl rfl ?_
        refine Wk.callS W47 hx hoZ (y := (⟨"com/example/federation/federation/PropertyConditionEqualsPinLaw", "key", "(I)I"⟩ : MethodName)) (wd hw 43 rfl) (wd hw 44 rfl) (wd hw 2 rfl) (wd hw 45 rfl) (by decide) (Wd := 1) (CN.back (rmkey l Z a0 hw v4 h47 W47.old ) W47.warm (wd hw 45 rfl) (wd hw 2 rfl) (by decide) (by decide)) (by rw [hml]; rfl) [(.int v4)] [(.int (f_key p0))] (lenOf pd1 rfl) rfl rfl (Nat.le_of_eq rfl) 152 (hb hby at_149) rfl (by decide) (by decide) (fun _ q => nomatch q) ?_
        intro v48 T48 h48 W48 K48 Ch48 Q48
        have H48 := W48.here; have z48 := K48.1
        obtain ⟨rfl, eh48⟩ := Q48
        show Goes p e below (PostW s Z consts_1 h0 [] (Q0 Z cz p0 p1 p2 p3 p4 h0) room_1.cells room_1.slots) (T48.setTop (mkF m 152 #[.val (.int p0), .val (.int p1), .val (.int p2), .val (.int p3), .val (.int p4), .val (.int v2), .val (.int v4), .val (.ref a5), .val (.int v9), .val (.ref a15), .unset] [(.int (f_key v4)), (.int (f_key p0))]))
        by_cases c152_49 : (f_key p0) = (f_key v4)
        ·
          refine G.icmpN H48 hx 155 (hb hby at_152) (teq c152_49).2 rfl ?_
          refine G.iloadN H48 hx 156 (hb hby at_155) rfl rfl ?_
          refine Wk.callS W48 hx hoZ (y := (⟨"com/example/federation/federation/PropertyConditionEqualsPinLaw", "key", "(I)I"⟩ : MethodName)) (wd hw 43 rfl) (wd hw 44 rfl) (wd hw 2 rfl) (wd hw 45 rfl) (by decide) (Wd := 0) (CN.back (rmkey l Z a0 hw p1 h48 W48.old ) W48.warm (wd hw 45 rfl) (wd hw 2 rfl) (by decide) (by decide)) (by rw [hml]; rfl) [(.int p1)] [] (lenOf pd1 rfl) rfl rfl (Nat.le_of_eq rfl) 159 (hb hby at_156) rfl (by decide) (by decide) (fun _ q => nomatch q) ?_
          intro v50 T50 h50 W50 K50 Ch50 Q50
          have H50 := W50.here; have z50 := K50.1
          obtain ⟨rfl, eh50⟩ := Q50
          show Goes p e below (PostW s Z consts_1 h0 [] (Q0 Z cz p0 p1 p2 p3 p4 h0) room_1.cells room_1.slots) (T50.setTop (mkF m 159 #[.val (.int p0), .val (.int p1), .val (.int p2), .val (.int p3), .val (.int p4), .val (.int v2), .val (.int v4), .val (.ref a5), .val (.int v9), .val (.ref a15), .unset] [(.int (f_key p1))]))
          refine G.iload H50 hx 161 (hb hby at_159) rfl rfl ?_
          refine Wk.callS W50 hx hoZ (y := (⟨"com/example/federation/federation/PropertyConditionEqualsPinLaw", "key", "(I)I"⟩ : MethodName)) (wd hw 43 rfl) (wd hw 44 rfl) (wd hw 2 rfl) (wd hw 45 rfl) (by decide) (Wd := 1) (CN.back (rmkey l Z a0 hw v2 h50 W50.old ) W50.warm (wd hw 45 rfl) (wd hw 2 rfl) (by decide) (by decide)) (by rw [hml]; rfl) [(.int v2)] [(.int (f_key p1))] (lenOf pd1 rfl) rfl rfl (Nat.le_of_eq rfl) 164 (hb hby at_161) rfl (by decide) (by decide) (fun _ q => nomatch q) ?_
          intro v51 T51 h51 W51 K51 Ch51 Q51
          have H51 := W51.here; have z51 := K51.1
          obtain ⟨rfl, eh51⟩ := Q51
          show Goes p e below (PostW s Z consts_1 h0 [] (Q0 Z cz p0 p1 p2 p3 p4 h0) room_1.cells room_1.slots) (T51.setTop (mkF m 164 #[.val (.int p0), .val (.int p1), .val (.int p2), .val (.int p3), .val (.int p4), .val (.int v2), .val (.int v4), .val (.ref a5), .val (.int v9), .val (.ref a15), .unset] [(.int (f_key v2)), (.int (f_key p1))]))
          by_cases c164_52 : (f_key p1) = (f_key v2)
          ·
            refine G.icmpN H51 hx 167 (hb hby at_164) (teq c164_52).2 rfl ?_
            refine G.iconst H51 hx 168 (1 : Int32) (hb hby at_167) rfl rfl ?_
            refine G.goto H51 hx 172 (hb hby at_168) (by decide) rfl ?_
            refine G.istoreX H51 hx 174 #[.val (.int p0), .val (.int p1), .val (.int p2), .val (.int p3), .val (.int p4), .val (.int v2), .val (.int v4), .val (.ref a5), .val (.int v9), .val (.ref a15), .val (.int (1 : Int32))] (hb hby at_172) rfl rfl ?_
            refine G.aload H51 hx 176 (hb hby at_174) rfl rfl rfl ?_
            refine G.aload H51 hx 178 (hb hby at_176) rfl rfl rfl ?_
            refine Wk.virtual W51 hx hoZ (y := (⟨"com/example/federation/federation/PropertyCondition", "equals", "(Ljava/lang/Object;)Z"⟩ : MethodName)) (z := (⟨"com/example/federation/federation/PropertyCondition", "equals", "(Ljava/lang/Object;)Z"⟩ : MethodName)) (wd hw 46 rfl) (wd hw 47 rfl) (wd hw 49 rfl) (wd hw 48 rfl) (W51.nf (wd hw 49 rfl)) (by decide) (Wd := 0) (CN.back (rmEqP l Z a0 hw cz a5 a15 a6 a7 a16 a17 (strL p0) (strL p1) (strL v2) (strL v4) h51 W51.old hCS hcz ((((((((((X8.ext E15).keep K16).keep K17).keep K18).keep K19).keep K20).keep K47).keep K48).keep K50).keep K51) ((((((((((F8_left.ext E15).keep K16 nin0).keep K17 nin0).keep K18 (ninS (neA (by omega)) nin0)).keep K19 nin0).keep K20 nin0).keep K47 nin0).keep K48 nin0).keep K50 nin0).keep K51 nin0) ((((((((((F8_right.ext E15).keep K16 nin0).keep K17 nin0).keep K18 (ninS (neA (by omega)) nin0)).keep K19 nin0).keep K20 nin0).keep K47 nin0).keep K48 nin0).keep K50 nin0).keep K51 nin0) ((((((((((((Sv6.keepX K7 ala0).keepX K8 (ala ⟨neA (by omega), NB.exa ((A5.keep K6).keep K7) (wd hw 5 rfl)⟩ (ala0))).ext E15).keepX K16 ala0).keepX K17 ala0).keepX K18 (ala ⟨neA (by omega), NB.exa ((A15.keep K16).keep K17) (wd hw 5 rfl)⟩ (ala0))).keepX K19 ala0).keepX K20 ala0).keepX K47 ala0).keepX K48 ala0).keepX K50 ala0).keepX K51 ala0) (((((((((((Sv7.keepX K8 (ala ⟨neA (by omega), NB.exa ((A5.keep K6).keep K7) (wd hw 5 rfl)⟩ (ala0))).ext E15).keepX K16 ala0).keepX K17 ala0).keepX K18 (ala ⟨neA (by omega), NB.exa ((A15.keep K16).keep K17) (wd hw 5 rfl)⟩ (ala0))).keepX K19 ala0).keepX K20 ala0).keepX K47 ala0).keepX K48 ala0).keepX K50 ala0).keepX K51 ala0) ((((((X18.keep K19).keep K20).keep K47).keep K48).keep K50).keep K51) ((((((F18_left.keep K19 nin0).keep K20 nin0).keep K47 nin0).keep K48 nin0).keep K50 nin0).keep K51 nin0) ((((((F18_right.keep K19 nin0).keep K20 nin0).keep K47 nin0).keep K48 nin0).keep K50 nin0).keep K51 nin0) ((((((((Sv16.keepX K17 ala0).keepX K18 (ala ⟨neA (by omega), NB.exa ((A15.keep K16).keep K17) (wd hw 5 rfl)⟩ (ala0))).keepX K19 ala0).keepX K20 ala0).keepX K47 ala0).keepX K48 ala0).keepX K50 ala0).keepX K51 ala0) (((((((Sv17.keepX K18 (ala ⟨neA (by omega), NB.exa ((A15.keep K16).keep K17) (wd hw 5 rfl)⟩ (ala0))).keepX K19 ala0).keepX K20 ala0).keepX K47 ala0).keepX K48 ala0).keepX K50 ala0).keepX K51 ala0)) W51.warm (wd hw 50 rfl) (wd hw 6 rfl) (by decide) (by decide)) ((((((((((X8.ext E15).keep K16).keep K17).keep K18).keep K19).keep K20).keep K47).keep K48).keep K50).keep K51) (by rw [hml]; rfl) [(.ref a15)] [] (lenOf pd3 rfl) rfl rfl (Nat.le_of_eq rfl) 181 (hb hby at_178) rfl (by decide) (by decide) (fun _ q => nomatch q) ?_
            intro v53 T53 h53 W53 K53 Ch53 Q53
            have H53 := W53.here; have z53 := K53.1
            obtain rfl : _ = _ := Q53
            show Goes p e below (PostW s Z consts_1 h0 [] (Q0 Z cz p0 p1 p2 p3 p4 h0) room_1.cells room_1.slots) (T53.setTop (mkF m 181 #[.val (.int p0), .val (.int p1), .val (.int p2), .val (.int p3), .val (.int p4), .val (.int v2), .val (.int v4), .val (.ref a5), .val (.int v9), .val (.ref a15), .val (.int (1 : Int32))] [(.int (if ((strL p0) = (strL v2) ∧ (strL p1) = (strL v4)) ∨ ((strL p0) = (strL v4) ∧ (strL p1) = (strL v2)) then (1 : Int32) else (0 : Int32)))]))
            refine G.iload H53 hx 183 (hb hby at_181) rfl rfl ?_
            by_cases c183_54 : (if ((strL p0) = (strL v2) ∧ (strL p1) = (strL v4)) ∨ ((strL p0) = (strL v4) ∧ (strL p1) = (strL v2)) then (1 : Int32) else (0 : Int32)) = (1 : Int32)
            ·
              refine G.icmpN H53 hx 186 (hb hby at_183) (teq c183_54).2 rfl ?_
              refine G.aload H53 hx 188 (hb hby at_186) rfl rfl rfl ?_
              refine G.aload H53 hx 190 (hb hby at_188) rfl rfl rfl ?_
              refine Wk.virtual W53 hx hoZ (y := (⟨"com/example/federation/federation/PropertyCondition", "equals", "(Ljava/lang/Object;)Z"⟩ : MethodName)) (z := (⟨"com/example/federation/federation/PropertyCondition", "equals", "(Ljava/lang/Object;)Z"⟩ : MethodName)) (wd hw 46 rfl) (wd hw 47 rfl) (wd hw 49 rfl) (wd hw 48 rfl) (W53.nf (wd hw 49 rfl)) (by decide) (Wd := 0) (CN.back (rmEqP l Z a0 hw cz a15 a5 a16 a17 a6 a7 (strL v2) (strL v4) (strL p0) (strL p1) h53 W53.old hCS hcz (((((((X18.keep K19).keep K20).keep K47).keep K48).keep K50).keep K51).keep K53) (((((((F18_left.keep K19 nin0).keep K20 nin0).keep K47 nin0).keep K48 nin0).keep K50 nin0).keep K51 nin0).keep K53 nin0) (((((((F18_right.keep K19 nin0).keep K20 nin0).keep K47 nin0).keep K48 nin0).keep K50 nin0).keep K51 nin0).keep K53 nin0) (((((((((Sv16.keepX K17 ala0).keepX K18 (ala ⟨neA (by omega), NB.exa ((A15.keep K16).keep K17) (wd hw 5 rfl)⟩ (ala0))).keepX K19 ala0).keepX K20 ala0).keepX K47 ala0).keepX K48 ala0).keepX K50 ala0).keepX K51 ala0).keepX K53 ala0) ((((((((Sv17.keepX K18 (ala ⟨neA (by omega), NB.exa ((A15.keep K16).keep K17) (wd hw 5 rfl)⟩ (ala0))).keepX K19 ala0).keepX K20 ala0).keepX K47 ala0).keepX K48 ala0).keepX K50 ala0).keepX K51 ala0).keepX K53 ala0) (((((((((((X8.ext E15).keep K16).keep K17).keep K18).keep K19).keep K20).keep K47).keep K48).keep K50).keep K51).keep K53) (((((((((((F8_left.ext E15).keep K16 nin0).keep K17 nin0).keep K18 (ninS (neA (by omega)) nin0)).keep K19 nin0).keep K20 nin0).keep K47 nin0).keep K48 nin0).keep K50 nin0).keep K51 nin0).keep K53 nin0) (((((((((((F8_right.ext E15).keep K16 nin0).keep K17 nin0).keep K18 (ninS (neA (by omega)) nin0)).keep K19 nin0).keep K20 nin0).keep K47 nin0).keep K48 nin0).keep K50 nin0).keep K51 nin0).keep K53 nin0) (((((((((((((Sv6.keepX K7 ala0).keepX K8 (ala ⟨neA (by omega), NB.exa ((A5.keep K6).keep K7) (wd hw 5 rfl)⟩ (ala0))).ext E15).keepX K16 ala0).keepX K17 ala0).keepX K18 (ala ⟨neA (by omega), NB.exa ((A15.keep K16).keep K17) (wd hw 5 rfl)⟩ (ala0))).keepX K19 ala0).keepX K20 ala0).keepX K47 ala0).keepX K48 ala0).keepX K50 ala0).keepX K51 ala0).keepX K53 ala0) ((((((((((((Sv7.keepX K8 (ala ⟨neA (by omega), NB.exa ((A5.keep K6).keep K7) (wd hw 5 rfl)⟩ (ala0))).ext E15).keepX K16 ala0).keepX K17 ala0).keepX K18 (ala ⟨neA (by omega), NB.exa ((A15.keep K16).keep K17) (wd hw 5 rfl)⟩ (ala0))).keepX K19 ala0).keepX K20 ala0).keepX K47 ala0).keepX K48 ala0).keepX K50 ala0).keepX K51 ala0).keepX K53 ala0)) W53.warm (wd hw 50 rfl) (wd hw 6 rfl) (by decide) (by decide)) (((((((X18.keep K19).keep K20).keep K47).keep K48).keep K50).keep K51).keep K53) (by rw [hml]; rfl) [(.ref a5)] [] (lenOf pd3 rfl) rfl rfl (Nat.le_of_eq rfl) 193 (hb hby at_190) rfl (by decide) (by decide) (fun _ q => nomatch q) ?_
              intro v55 T55 h55 W55 K55 Ch55 Q55
              have H55 := W55.here; have z55 := K55.1
              obtain rfl : _ = _ := Q55
              show Goes p e below (PostW s Z consts_1 h0 [] (Q0 Z cz p0 p1 p2 p3 p4 h0) room_1.cells room_1.slots) (T55.setTop (mkF m 193 #[.val (.int p0), .val (.int p1), .val (.int p2), .val (.int p3), .val (.int p4), .val (.int v2), .val (.int v4), .val (.ref a5), .val (.int v9), .val (.ref a15), .val (.int (1 : Int32))] [(.int (if ((strL v2) = (strL p0) ∧ (strL v4) = (strL p1)) ∨ ((strL v2) = (strL p1) ∧ (strL v4) = (strL p0)) then (1 : Int32) else (0 : Int32)))]))
              refine G.iload H55 hx 195 (hb hby at_193) rfl rfl ?_
              by_cases c195_56 : (if ((strL v2) = (strL p0) ∧ (strL v4) = (strL p1)) ∨ ((strL v2) = (strL p1) ∧ (strL v4) = (strL p0)) then (1 : Int32) else (0 : Int32)) = (1 : Int32)
              ·
                refine G.icmpN H55 hx 198 (hb hby at_195) (teq c195_56).2 rfl ?_
                refine G.iconst H55 hx 199 (1 : Int32) (hb hby at_198) rfl rfl ?_
                refine G.goto H55 hx 203 (hb hby at_199) (by decide) rfl ?_
                exact Wk.retNW W55 hx hEL (1 : Int32) (t := .boolean) rfl (by simp) hret hlk (hb hby at_203) (by decide) (by decide) rfl
              ·
                refine G.icmpY H55 hx 202 (hb hby at_195) (feq c195_56).2 (by decide) rfl ?_
                refine G.iconst H55 hx 203 (0 : Int32) (hb hby at_202) rfl rfl ?_
                exact Wk.retNW W55 hx hEL (0 : Int32) (t := .boolean) rfl (by simp) hret hlk (hb hby at_203) (by decide) (by decide) (by unfold Q0; exfalso; simp only [own_key, own_i1, own_i01] at c128_21 c152_49 c164_52 c183_54 c195_56; grind)
            ·
              refine G.icmpY H53 hx 202 (hb hby at_183) (feq c183_54).2 (by decide) rfl ?_
              refine G.iconst H53 hx 203 (0 : Int32) (hb hby at_202) rfl rfl ?_
              exact Wk.retNW W53 hx hEL (0 : Int32) (t := .boolean) rfl (by simp) hret hlk (hb hby at_203) (by decide) (by decide) (by unfold Q0; exfalso; simp only [own_key, own_i1, own_i01] at c128_21 c152_49 c164_52 c183_54; grind)
          ·
            refine G.icmpY H51 hx 171 (hb hby at_164) (feq c164_52).2 (by decide) rfl ?_
            refine G.iconst H51 hx 172 (0 : Int32) (hb hby at_171) rfl rfl ?_
            refine G.istoreX H51 hx 174 #[.val (.int p0), .val (.int p1), .val (.int p2), .val (.int p3), .val (.int p4), .val (.int v2), .val (.int v4), .val (.ref a5), .val (.int v9), .val (.ref a15), .val (.int (0 : Int32))] (hb hby at_172) rfl rfl ?_
            refine G.aload H51 hx 176 (hb hby at_174) rfl rfl rfl ?_
            refine G.aload H51 hx 178 (hb hby at_176) rfl rfl rfl ?_
            refine Wk.virtual W51 hx hoZ (y := (⟨"com/example/federation/federation/PropertyCondition", "equals", "(Ljava/lang/Object;)Z"⟩ : MethodName)) (z := (⟨"com/example/federation/federation/PropertyCondition", "equals", "(Ljava/lang/Object;)Z"⟩ : MethodName)) (wd hw 46 rfl) (wd hw 47 rfl) (wd hw 49 rfl) (wd hw 48 rfl) (W51.nf (wd hw 49 rfl)) (by decide) (Wd := 0) (CN.back (rmEqP l Z a0 hw cz a5 a15 a6 a7 a16 a17 (strL p0) (strL p1) (strL v2) (strL v4) h51 W51.old hCS hcz ((((((((((X8.ext E15).keep K16).keep K17).keep K18).keep K19).keep K20).keep K47).keep K48).keep K50).keep K51) ((((((((((F8_left.ext E15).keep K16 nin0).keep K17 nin0).keep K18 (ninS (neA (by omega)) nin0)).keep K19 nin0).keep K20 nin0).keep K47 nin0).keep K48 nin0).keep K50 nin0).keep K51 nin0) ((((((((((F8_right.ext E15).keep K16 nin0).keep K17 nin0).keep K18 (ninS (neA (by omega)) nin0)).keep K19 nin0).keep K20 nin0).keep K47 nin0).keep K48 nin0).keep K50 nin0).keep K51 nin0) ((((((((((((Sv6.keepX K7 ala0).keepX K8 (ala ⟨neA (by omega), NB.exa ((A5.keep K6).keep K7) (wd hw 5 rfl)⟩ (ala0))).ext E15).keepX K16 ala0).keepX K17 ala0).keepX K18 (ala ⟨neA (by omega), NB.exa ((A15.keep K16).keep K17) (wd hw 5 rfl)⟩ (ala0))).keepX K19 ala0).keepX K20 ala0).keepX K47 ala0).keepX K48 ala0).keepX K50 ala0).keepX K51 ala0) (((((((((((Sv7.keepX K8 (ala ⟨neA (by omega), NB.exa ((A5.keep K6).keep K7) (wd hw 5 rfl)⟩ (ala0))).ext E15).keepX K16 ala0).keepX K17 ala0).keepX K18 (ala ⟨neA (by omega), NB.exa ((A15.keep K16).keep K17) (wd hw 5 rfl)⟩ (ala0))).keepX K19 ala0).keepX K20 ala0).keepX K47 ala0).keepX K48 ala0).keepX K50 ala0).keepX K51 ala0) ((((((X18.keep K19).keep K20).keep K47).keep K48).keep K50).keep K51) ((((((F18_left.keep K19 nin0).keep K20 nin0).keep K47 nin0).keep K48 nin0).keep K50 nin0).keep K51 nin0) ((((((F18_right.keep K19 nin0).keep K20 nin0).keep K47 nin0).keep K48 nin0).keep K50 nin0).keep K51 nin0) ((((((((Sv16.keepX K17 ala0).keepX K18 (ala ⟨neA (by omega), NB.exa ((A15.keep K16).keep K17) (wd hw 5 rfl)⟩ (ala0))).keepX K19 ala0).keepX K20 ala0).keepX K47 ala0).keepX K48 ala0).keepX K50 ala0).keepX K51 ala0) (((((((Sv17.keepX K18 (ala ⟨neA (by omega), NB.exa ((A15.keep K16).keep K17) (wd hw 5 rfl)⟩ (ala0))).keepX K19 ala0).keepX K20 ala0).keepX K47 ala0).keepX K48 ala0).keepX K50 ala0).keepX K51 ala0)) W51.warm (wd hw 50 rfl) (wd hw 6 rfl) (by decide) (by decide)) ((((((((((X8.ext E15).keep K16).keep K17).keep K18).keep K19).keep K20).keep K47).keep K48).keep K50).keep K51) (by rw [hml]; rfl) [(.ref a15)] [] (lenOf pd3 rfl) rfl rfl (Nat.le_of_eq rfl) 181 (hb hby at_178) rfl (by decide) (by decide) (fun _ q => nomatch q) ?_
            intro v57 T57 h57 W57 K57 Ch57 Q57
            have H57 := W57.here; have z57 := K57.1
            obtain rfl : _ = _ := Q57
            show Goes p e below (PostW s Z consts_1 h0 [] (Q0 Z cz p0 p1 p2 p3 p4 h0) room_1.cells room_1.slots) (T57.setTop (mkF m 181 #[.val (.int p0), .val (.int p1), .val (.int p2), .val (.int p3), .val (.int p4), .val (.int v2), .val (.int v4), .val (.ref a5), .val (.int v9), .val (.ref a15), .val (.int (0 : Int32))] [(.int (if ((strL p0) = (strL v2) ∧ (strL p1) = (strL v4)) ∨ ((strL p0) = (strL v4) ∧ (strL p1) = (strL v2)) then (1 : Int32) else (0 : Int32)))]))
            refine G.iload H57 hx 183 (hb hby at_181) rfl rfl ?_
            by_cases c183_58 : (if ((strL p0) = (strL v2) ∧ (strL p1) = (strL v4)) ∨ ((strL p0) = (strL v4) ∧ (strL p1) = (strL v2)) then (1 : Int32) else (0 : Int32)) = (0 : Int32)
            ·
              refine G.icmpN H57 hx 186 (hb hby at_183) (teq c183_58).2 rfl ?_
              refine G.aload H57 hx 188 (hb hby at_186) rfl rfl rfl ?_
              refine G.aload H57 hx 190 (hb hby at_188) rfl rfl rfl ?_
              refine Wk.virtual W57 hx hoZ (y := (⟨"com/example/federation/federation/PropertyCondition", "equals", "(Ljava/lang/Object;)Z"⟩ : MethodName)) (z := (⟨"com/example/federation/federation/PropertyCondition", "equals", "(Ljava/lang/Object;)Z"⟩ : MethodName)) (wd hw 46 rfl) (wd hw 47 rfl) (wd hw 49 rfl) (wd hw 48 rfl) (W57.nf (wd hw 49 rfl)) (by decide) (Wd := 0) (CN.back (rmEqP l Z a0 hw cz a15 a5 a16 a17 a6 a7 (strL v2) (strL v4) (strL p0) (strL p1) h57 W57.old hCS hcz (((((((X18.keep K19).keep K20).keep K47).keep K48).keep K50).keep K51).keep K57) (((((((F18_left.keep K19 nin0).keep K20 nin0).keep K47 nin0).keep K48 nin0).keep K50 nin0).keep K51 nin0).keep K57 nin0) (((((((F18_right.keep K19 nin0).keep K20 nin0).keep K47 nin0).keep K48 nin0).keep K50 nin0).keep K51 nin0).keep K57 nin0) (((((((((Sv16.keepX K17 ala0).keepX K18 (ala ⟨neA (by omega), NB.exa ((A15.keep K16).keep K17) (wd hw 5 rfl)⟩ (ala0))).keepX K19 ala0).keepX K20 ala0).keepX K47 ala0).keepX K48 ala0).keepX K50 ala0).keepX K51 ala0).keepX K57 ala0) ((((((((Sv17.keepX K18 (ala ⟨neA (by omega), NB.exa ((A15.keep K16).keep K17) (wd hw 5 rfl)⟩ (ala0))).keepX K19 ala0).keepX K20 ala0).keepX K47 ala0).keepX K48 ala0).keepX K50 ala0).keepX K51 ala0).keepX K57 ala0) (((((((((((X8.ext E15).keep K16).keep K17).keep K18).keep K19).keep K20).keep K47).keep K48).keep K50).keep K51).keep K57) (((((((((((F8_left.ext E15).keep K16 nin0).keep K17 nin0).keep K18 (ninS (neA (by omega)) nin0)).keep K19 nin0).keep K20 nin0).keep K47 nin0).keep K48 nin0).keep K50 nin0).keep K51 nin0).keep K57 nin0) (((((((((((F8_right.ext E15).keep K16 nin0).keep K17 nin0).keep K18 (ninS (neA (by omega)) nin0)).keep K19 nin0).keep K20 nin0).keep K47 nin0).keep K48 nin0).keep K50 nin0).keep K51 nin0).keep K57 nin0) (((((((((((((Sv6.keepX K7 ala0).keepX K8 (ala ⟨neA (by omega), NB.exa ((A5.keep K6).keep K7) (wd hw 5 rfl)⟩ (ala0))).ext E15).keepX K16 ala0).keepX K17 ala0).keepX K18 (ala ⟨neA (by omega), NB.exa ((A15.keep K16).keep K17) (wd hw 5 rfl)⟩ (ala0))).keepX K19 ala0).keepX K20 ala0).keepX K47 ala0).keepX K48 ala0).keepX K50 ala0).keepX K51 ala0).keepX K57 ala0) ((((((((((((Sv7.keepX K8 (ala ⟨neA (by omega), NB.exa ((A5.keep K6).keep K7) (wd hw 5 rfl)⟩ (ala0))).ext E15).keepX K16 ala0).keepX K17 ala0).keepX K18 (ala ⟨neA (by omega), NB.exa ((A15.keep K16).keep K17) (wd hw 5 rfl)⟩ (ala0))).keepX K19 ala0).keepX K20 ala0).keepX K47 ala0).keepX K48 ala0).keepX K50 ala0).keepX K51 ala0).keepX K57 ala0)) W57.warm (wd hw 50 rfl) (wd hw 6 rfl) (by decide) (by decide)) (((((((X18.keep K19).keep K20).keep K47).keep K48).keep K50).keep K51).keep K57) (by rw [hml]; rfl) [(.ref a5)] [] (lenOf pd3 rfl) rfl rfl (Nat.le_of_eq rfl) 193 (hb hby at_190) rfl (by decide) (by decide) (fun _ q => nomatch q) ?_
              intro v59 T59 h59 W59 K59 Ch59 Q59
              have H59 := W59.here; have z59 := K59.1
              obtain rfl : _ = _ := Q59
              show Goes p e below (PostW s Z consts_1 h0 [] (Q0 Z cz p0 p1 p2 p3 p4 h0) room_1.cells room_1.slots) (T59.setTop (mkF m 193 #[.val (.int p0), .val (.int p1), .val (.int p2), .val (.int p3), .val (.int p4), .val (.int v2), .val (.int v4), .val (.ref a5), .val (.int v9), .val (.ref a15), .val (.int (0 : Int32))] [(.int (if ((strL v2) = (strL p0) ∧ (strL v4) = (strL p1)) ∨ ((strL v2) = (strL p1) ∧ (strL v4) = (strL p0)) then (1 : Int32) else (0 : Int32)))]))
              refine G.iload H59 hx 195 (hb hby at_193) rfl rfl ?_
              by_cases c195_60 : (if ((strL v2) = (strL p0) ∧ (strL v4) = (strL p1)) ∨ ((strL v2) = (strL p1) ∧ (strL v4) = (strL p0)) then (1 : Int32) else (0 : Int32)) = (0 : Int32)
              ·
                refine G.icmpN H59 hx 198 (hb hby at_195) (teq c195_60).2 rfl ?_
                refine G.iconst H59 hx 199 (1 : Int32) (hb hby at_198) rfl rfl ?_
                refine G.goto H59 hx 203 (hb hby at_199) (by decide) rfl ?_
                exact Wk.retNW W59 hx hEL (1 : Int32) (t := .boolean) rfl (by simp) hret hlk (hb hby at_203) (by decide) (by decide) rfl
              ·
                refine G.icmpY H59 hx 202 (hb hby at_195) (feq c195_60).2 (by decide) rfl ?_
                refine G.iconst H59 hx 203 (0 : Int32) (hb hby at_202) rfl rfl ?_
                exact Wk.retNW W59 hx hEL (0 : Int32) (t := .boolean) rfl (by simp) hret hlk (hb hby at_203) (by decide) (by decide) (by unfold Q0; exfalso; simp only [own_key, own_i1, own_i01] at c128_21 c152_49 c164_52 c183_58 c195_60; grind)
            ·
              refine G.icmpY H57 hx 202 (hb hby at_183) (feq c183_58).2 (by decide) rfl ?_
              refine G.iconst H57 hx 203 (0 : Int32) (hb hby at_202) rfl rfl ?_
              exact Wk.retNW W57 hx hEL (0 : Int32) (t := .boolean) rfl (by simp) hret hlk (hb hby at_203) (by decide) (by decide) (by unfold Q0; exfalso; simp only [own_key, own_i1, own_i01] at c128_21 c152_49 c164_52 c183_58; grind)
        ·
          refine G.icmpY H48 hx 171 (hb hby at_152) (feq c152_49).2 (by decide) rfl ?_
          refine G.iconst H48 hx 172 (0 : Int32) (hb hby at_171) rfl rfl ?_
          refine G.istoreX H48 hx 174 #[.val (.int p0), .val (.int p1), .val (.int p2), .val (.int p3), .val (.int p4), .val (.int v2), .val (.int v4), .val (.ref a5), .val (.int v9), .val (.ref a15), .val (.int (0 : Int32))] (hb hby at_172) rfl rfl ?_
          refine G.aload H48 hx 176 (hb hby at_174) rfl rfl rfl ?_
          refine G.aload H48 hx 178 (hb hby at_176) rfl rfl rfl ?_
          refine Wk.virtual W48 hx hoZ (y := (⟨"com/example/federation/federation/PropertyCondition", "equals", "(Ljava/lang/Object;)Z"⟩ : MethodName)) (z := (⟨"com/example/federation/federation/PropertyCondition", "equals", "(Ljava/lang/Object;)Z"⟩ : MethodName)) (wd hw 46 rfl) (wd hw 47 rfl) (wd hw 49 rfl) (wd hw 48 rfl) (W48.nf (wd hw 49 rfl)) (by decide) (Wd := 0) (CN.back (rmEqP l Z a0 hw cz a5 a15 a6 a7 a16 a17 (strL p0) (strL p1) (strL v2) (strL v4) h48 W48.old hCS hcz ((((((((X8.ext E15).keep K16).keep K17).keep K18).keep K19).keep K20).keep K47).keep K48) ((((((((F8_left.ext E15).keep K16 nin0).keep K17 nin0).keep K18 (ninS (neA (by omega)) nin0)).keep K19 nin0).keep K20 nin0).keep K47 nin0).keep K48 nin0) ((((((((F8_right.ext E15).keep K16 nin0).keep K17 nin0).keep K18 (ninS (neA (by omega)) nin0)).keep K19 nin0).keep K20 nin0).keep K47 nin0).keep K48 nin0) ((((((((((Sv6.keepX K7 ala0).keepX K8 (ala ⟨neA (by omega), NB.exa ((A5.keep K6).keep K7) (wd hw 5 rfl)⟩ (ala0))).ext E15).keepX K16 ala0).keepX K17 ala0).keepX K18 (ala ⟨neA (by omega), NB.exa ((A15.keep K16).keep K17) (wd hw 5 rfl)⟩ (ala0))).keepX K19 ala0).keepX K20 ala0).keepX K47 ala0).keepX K48 ala0) (((((((((Sv7.keepX K8 (ala ⟨neA (by omega), NB.exa ((A5.keep K6).keep K7) (wd hw 5 rfl)⟩ (ala0))).ext E15).keepX K16 ala0).keepX K17 ala0).keepX K18 (ala ⟨neA (by omega), NB.exa ((A15.keep K16).keep K17) (wd hw 5 rfl)⟩ (ala0))).keepX K19 ala0).keepX K20 ala0).keepX K47 ala0).keepX K48 ala0) ((((X18.keep K19).keep K20).keep K47).keep K48) ((((F18_left.keep K19 nin0).keep K20 nin0).keep K47 nin0).keep K48 nin0) ((((F18_right.keep K19 nin0).keep K20 nin0).keep K47 nin0).keep K48 nin0) ((((((Sv16.keepX K17 ala0).keepX K18 (ala ⟨neA (by omega), NB.exa ((A15.keep K16).keep K17) (wd hw 5 rfl)⟩ (ala0))).keepX K19 ala0).keepX K20 ala0).keepX K47 ala0).keepX K48 ala0) (((((Sv17.keepX K18 (ala ⟨neA (by omega), NB.exa ((A15.keep K16).keep K17) (wd hw 5 rfl)⟩ (ala0))).keepX K19 ala0).keepX K20 ala0).keepX K47 ala0).keepX K48 ala0)) W48.warm (wd hw 50 rfl) (wd hw 6 rfl) (by decide) (by decide)) ((((((((X8.ext E15).keep K16).keep K17).keep K18).keep K19).keep K20).keep K47).keep K48) (by rw [hml]; rfl) [(.ref a15)] [] (lenOf pd3 rfl) rfl rfl (Nat.le_of_eq rfl) 181 (hb hby at_178) rfl (by decide) (by decide) (fun _ q => nomatch q) ?_
          intro v61 T61 h61 W61 K61 Ch61 Q61
          have H61 := W61.here; have z61 := K61.1
          obtain rfl : _ = _ := Q61
          show Goes p e below (PostW s Z consts_1 h0 [] (Q0 Z cz p0 p1 p2 p3 p4 h0) room_1.cells room_1.slots) (T61.setTop (mkF m 181 #[.val (.int p0), .val (.int p1), .val (.int p2), .val (.int p3), .val (.int p4), .val (.int v2), .val (.int v4), .val (.ref a5), .val (.int v9), .val (.ref a15), .val (.int (0 : Int32))] [(.int (if ((strL p0) = (strL v2) ∧ (strL p1) = (strL v4)) ∨ ((strL p0) = (strL v4) ∧ (strL p1) = (strL v2)) then (1 : Int32) else (0 : Int32)))]))
          refine G.iload H61 hx 183 (hb hby at_181) rfl rfl ?_
          by_cases c183_62 : (if ((strL p0) = (strL v2) ∧ (strL p1) = (strL v4)) ∨ ((strL p0) = (strL v4) ∧ (strL p1) = (strL v2)) then (1 : Int32) else (0 : Int32)) = (0 : Int32)
          ·
            refine G.icmpN H61 hx 186 (hb hby at_183) (teq c183_62).2 rfl ?_
            refine G.aload H61 hx 188 (hb hby at_186) rfl rfl rfl ?_
            refine G.aload H61 hx 190 (hb hby at_188) rfl rfl rfl ?_
            refine Wk.virtual W61 hx hoZ (y := (⟨"com/example/federation/federation/PropertyCondition", "equals", "(Ljava/lang/Object;)Z"⟩ : MethodName)) (z := (⟨"com/example/federation/federation/PropertyCondition", "equals", "(Ljava/lang/Object;)Z"⟩ : MethodName)) (wd hw 46 rfl) (wd hw 47 rfl) (wd hw 49 rfl) (wd hw 48 rfl) (W61.nf (wd hw 49 rfl)) (by decide) (Wd := 0) (CN.back (rmEqP l Z a0 hw cz a15 a5 a16 a17 a6 a7 (strL v2) (strL v4) (strL p0) (strL p1) h61 W61.old hCS hcz (((((X18.keep K19).keep K20).keep K47).keep K48).keep K61) (((((F18_left.keep K19 nin0).keep K20 nin0).keep K47 nin0).keep K48 nin0).keep K61 nin0) (((((F18_right.keep K19 nin0).keep K20 nin0).keep K47 nin0).keep K48 nin0).keep K61 nin0) (((((((Sv16.keepX K17 ala0).keepX K18 (ala ⟨neA (by omega), NB.exa ((A15.keep K16).keep K17) (wd hw 5 rfl)⟩ (ala0))).keepX K19 ala0).keepX K20 ala0).keepX K47 ala0).keepX K48 ala0).keepX K61 ala0) ((((((Sv17.keepX K18 (ala ⟨neA (by omega), NB.exa ((A15.keep K16).keep K17) (wd hw 5 rfl)⟩ (ala0))).keepX K19 ala0).keepX K20 ala0).keepX K47 ala0).keepX K48 ala0).keepX K61 ala0) (((((((((X8.ext E15).keep K16).keep K17).keep K18).keep K19).keep K20).keep K47).keep K48).keep K61) (((((((((F8_left.ext E15).keep K16 nin0).keep K17 nin0).keep K18 (ninS (neA (by omega)) nin0)).keep K19 nin0).keep K20 nin0).keep K47 nin0).keep K48 nin0).keep K61 nin0) (((((((((F8_right.ext E15).keep K16 nin0).keep K17 nin0).keep K18 (ninS (neA (by omega)) nin0)).keep K19 nin0).keep K20 nin0).keep K47 nin0).keep K48 nin0).keep K61 nin0) (((((((((((Sv6.keepX K7 ala0).keepX K8 (ala ⟨neA (by omega), NB.exa ((A5.keep K6).keep K7) (wd hw 5 rfl)⟩ (ala0))).ext E15).keepX K16 ala0).keepX K17 ala0).keepX K18 (ala ⟨neA (by omega), NB.exa ((A15.keep K16).keep K17) (wd hw 5 rfl)⟩ (ala0))).keepX K19 ala0).keepX K20 ala0).keepX K47 ala0).keepX K48 ala0).keepX K61 ala0) ((((((((((Sv7.keepX K8 (ala ⟨neA (by omega), NB.exa ((A5.keep K6).keep K7) (wd hw 5 rfl)⟩ (ala0))).ext E15).keepX K16 ala0).keepX K17 ala0).keepX K18 (ala ⟨neA (by omega), NB.exa ((A15.keep K16).keep K17) (wd hw 5 rfl)⟩ (ala0))).keepX K19 ala0).keepX K20 ala0).keepX K47 ala0).keepX K48 ala0).keepX K61 ala0)) W61.warm (wd hw 50 rfl) (wd hw 6 rfl) (by decide) (by decide)) (((((X18.keep K19).keep K20).keep K47).keep K48).keep K61) (by rw [hml]; rfl) [(.ref a5)] [] (lenOf pd3 rfl) rfl rfl (Nat.le_of_eq rfl) 193 (hb hby at_190) rfl (by decide) (by decide) (fun _ q => nomatch q) ?_
            intro v63 T63 h63 W63 K63 Ch63 Q63
            have H63 := W63.here; have z63 := K63.1
            obtain rfl : _ = _ := Q63
            show Goes p e below (PostW s Z consts_1 h0 [] (Q0 Z cz p0 p1 p2 p3 p4 h0) room_1.cells room_1.slots) (T63.setTop (mkF m 193 #[.val (.int p0), .val (.int p1), .val (.int p2), .val (.int p3), .val (.int p4), .val (.int v2), .val (.int v4), .val (.ref a5), .val (.int v9), .val (.ref a15), .val (.int (0 : Int32))] [(.int (if ((strL v2) = (strL p0) ∧ (strL v4) = (strL p1)) ∨ ((strL v2) = (strL p1) ∧ (strL v4) = (strL p0)) then (1 : Int32) else (0 : Int32)))]))
            refine G.iload H63 hx 195 (hb hby at_193) rfl rfl ?_
            by_cases c195_64 : (if ((strL v2) = (strL p0) ∧ (strL v4) = (strL p1)) ∨ ((strL v2) = (strL p1) ∧ (strL v4) = (strL p0)) then (1 : Int32) else (0 : Int32)) = (0 : Int32)
            ·
              refine G.icmpN H63 hx 198 (hb hby at_195) (teq c195_64).2 rfl ?_
              refine G.iconst H63 hx 199 (1 : Int32) (hb hby at_198) rfl rfl ?_
              refine G.goto H63 hx 203 (hb hby at_199) (by decide) rfl ?_
              exact Wk.retNW W63 hx hEL (1 : Int32) (t := .boolean) rfl (by simp) hret hlk (hb hby at_203) (by decide) (by decide) rfl
            ·
              refine G.icmpY H63 hx 202 (hb hby at_195) (feq c195_64).2 (by decide) rfl ?_
              refine G.iconst H63 hx 203 (0 : Int32) (hb hby at_202) rfl rfl ?_
              exact Wk.retNW W63 hx hEL (0 : Int32) (t := .boolean) rfl (by simp) hret hlk (hb hby at_203) (by decide) (by decide) (by unfold Q0; exfalso; simp only [own_key, own_i1, own_i01] at c128_21 c152_49 c183_62 c195_64; grind)
          ·
            refine G.icmpY H61 hx 202 (hb hby at_183) (feq c183_62).2 (by decide) rfl ?_
            refine G.iconst H61 hx 203 (0 : Int32) (hb hby at_202) rfl rfl ?_
            exact Wk.retNW W61 hx hEL (0 : Int32) (t := .boolean) rfl (by simp) hret hlk (hb hby at_203) (by decide) (by decide) (by unfold Q0; exfalso; simp only [own_key, own_i1, own_i01] at c128_21 c152_49 c183_62; grind)
set_option maxRecDepth 65536 in
set_option maxHeartbeats 40000000 in
theorem comes_1 {Post : Tables → Env → Array Value → State → Outcome → State → Prop} (hpost : ∀ tb e args s v u, (limb_1_1.after args s (.returned v) u = true ∧ limb_1_2.after args s (.returned v) u = true ∧ True) → ReturnedEndW s (.returned v) u (Jvm.fieldLocs frame_1_writes args s ++ Jvm.arrayLocs frame_1_arrays args s ++ Jvm.staticLocs frame_1_statics s) 40 1216 → Post tb e args s (.returned v) u) :
    ArmFor flags0 classFile x code maxLocals ret World_1 tables_1 room_1 Calls_1 rest_1 Pre_1 Post := by
  intro l hfl _ _ p e ha hc hk s m args below hf hA hF happ hP
  obtain ⟨hcalls, hrest, hpre⟩ := hP
  obtain ⟨-, -, -, hnamed, -, -, -, hat⟩ := (Spec.applies_iff hf).mp happ
  obtain ⟨hg, hn⟩ := and_e (Cond.before_iff.mp (show (Jvm.Cond.and given_1 narrow_1).before args s = true from hpre))
  obtain ⟨hcount, hg0⟩ := and_e hg
  obtain ⟨ha0, hg1⟩ := and_e hg0
  obtain ⟨ha1, hg2⟩ := and_e hg1
  obtain ⟨ha2, hg3⟩ := and_e hg2
  obtain ⟨ha3, hg4⟩ := and_e hg3
  obtain ⟨w0, w1, w2, w3, w4, rfl⟩ : ∃ w0 w1 w2 w3 w4 : Value, args = #[w0, w1, w2, w3, w4] := by
    have hs : args.size = 5 := by simpa [Cond.value, given_1] using hcount
    obtain ⟨L⟩ := args
    match L, hs with
    | [w0, w1, w2, w3, w4], _ => exact ⟨w0, w1, w2, w3, w4, rfl⟩
  have hw := fun d (hd : d ∈ tables_1) => atoms_spec (ws := Jvm.Cond.code x code maxLocals ret :: tables_1) hat d (List.mem_cons_of_mem _ hd)
  obtain ⟨hsets, hown0⟩ := atoms_of _ (rest_1_c_eq ▸ (show rest_1_c.before _ s = true from hrest))
  have n5 := not_v (Cond.before_iff.mp (hsets _ (List.mem_of_getElem? (i := 2) rfl)))
  obtain ⟨i0, ei0⟩ := is_v ha0
  obtain rfl : w0 = (.int i0) := Option.some.inj ei0
  obtain ⟨i1, ei1⟩ := is_v ha1
  obtain rfl : w1 = (.int i1) := Option.some.inj ei1
  obtain ⟨i2, ei2⟩ := is_v ha2
  obtain rfl : w2 = (.int i2) := Option.some.inj ei2
  obtain ⟨i3, ei3⟩ := is_v ha3
  obtain rfl : w3 = (.int i3) := Option.some.inj ei3
  obtain ⟨i4, ei4⟩ := is_v hg4
  obtain rfl : w4 = (.int i4) := Option.some.inj ei4
  obtain ⟨cz, ecz⟩ := is_v (Cond.before_iff.mp (hsets _ (List.mem_of_getElem? (i := 1) rfl)))
  have hCS : Sta s s.heap "java/lang/String" "COMPACT_STRINGS" "Z" (.int cz) := Sta.start ecz (Or.inl (hsets _ (List.mem_of_getElem? (i := 0) rfl)))
  obtain ⟨fm, efm, hfm⟩ := isR_v (Cond.before_iff.mp (hsets _ (List.mem_of_getElem? (i := 8) rfl)))
  have hFM : Sta s s.heap "jdk/internal/util/Preconditions" "SIOOBE_FORMATTER" "Ljava/util/function/BiFunction;" fm := Sta.start efm (Or.inl (hsets _ (List.mem_of_getElem? (i := 7) rfl)))
  have hcz : ¬ cz = (0 : Int32) := gotF (Cond.eq_ints ecz (Term.int_eval (0))) n5
  have hCH : CHv s consts_1 s.vm s.heap := CHv.start (elw hw) (fun p hp => hcalls.1 p hp) (hsets _ (List.mem_of_getElem? (i := 2) rfl)) (wsStr hw _ (by simp [Bundle.stringAtoms])) (wsStr hw _ (by simp [Bundle.stringAtoms, Bundle.sN]))
  obtain ⟨n, o, h1, h2, h3, _, L, rfl, ⟨N, -, rfl⟩, -, hq⟩ := rm0 l s _ hw cz i0 i1 i2 i3 i4 s.heap (ext_refl _) hCS hcz p e ha hc hk s m _ below hf ((Spec.applies_iff_loose hf).mp happ).1 ⟨rfl, State.Warmed39.refl s, rfl, hCH, fun _ q => nomatch q⟩ trivial
  refine ⟨n, _, h1, h2, h3, hpost _ _ _ _ _ _ ⟨Cond.after_iff.mpr rfl, Cond.after_iff.mpr (eq_i res_at (Term.int_eval (1)) rfl), trivial⟩ ⟨hq.1, hq.2.1, hq.2.2.1, (hq.2.2.2.sift fun y hy => Or.inr (N y hy)).mono (by decide) (by decide)⟩⟩
theorem main_1_1 : Claimed_1_1 := comes_1 fun _ _ _ _ _ _ h hF => ⟨h.1, hF⟩
theorem main_1_2 : Claimed_1_2 := comes_1 fun _ _ _ _ _ _ h hF => ⟨h.2.1, hF⟩
end Jvm.Pilot.@@N@@
namespace Jvm.Pilot.@@N@@
open Jvm Jvm.ClassFile Sem Op Lib Jvm.Free Jvm.Stand Jvm.Pilot.@@N@@.Jvm.D
/-! MADE BY PROGRAM (witnessworld.py) out of the Statement's table words and the real class files: 20 classes; the members and pool entries that the words name. The judged class is class 1, her method 5. -/
namespace start1
open Jvm.ClassFile
def u (s : String) : CpInfo := .utf8 (stringToUtf16 s)
/-- a pool by its gaps: so many unusable entries, then the entry; so many at the end -/
def gap : Nat → List CpInfo → List CpInfo
  | 0, r => r
  | n + 1, r => .unusable :: gap n r
def poolList (es : List (Nat × CpInfo)) (last : Nat) : List CpInfo := es.foldr (fun e r => gap e.1 (e.2 :: r)) (gap last [])
def pool (es : List (Nat × CpInfo)) (last : Nat) : Array CpInfo := ⟨poolList es last⟩
def fileOf (pool : Array CpInfo) (this : Nat) (attrs : Array Attribute := #[]) (ms : Array MethodInfo := #[]) (fl : Nat := 33) (sup : Nat := 0) (ifs : Array Nat := #[]) (fds : Array FieldInfo := #[]) : ClassFile where
  minorVersion := 0
  majorVersion := 65
  constantPool := pool
  accessFlags := fl
  thisClass := this
  superClass := sup
  interfaces := ifs
  fields := fds
  methods := ms
  attributes := attrs
def plain (name : String) (sup : Option ClassId) : Class where
  name := name
  kind := .ordinary
  loader := none
  accessFlags := 33
  super := sup
  interfaces := #[]
  cf := none
  fields := #[]
  methods := #[]
  instanceTypes := #[]
  staticTypes := #[]
  resolved := #[]
  callSites := []
  init := .initialized
  statics := none
  mirror := none

def pool0 : Array CpInfo := pool [(5, u "<init>"), (0, u "()V"), (1, .class_ 10), (1, u "java/lang/Object")] 113

def k0c0 : Code := { maxStack := 0, maxLocals := 1, code := object_method_1_code, exceptionTable := #[], attributes := #[] }
def k0m0 : Method := { name := "<init>", desc := "()V", sig := { parameters := [], returnType := none }, accessFlags := 1, code := some k0c0 }
/-- java/lang/Object -/
def k0 : Class := { plain "java/lang/Object" none with
  accessFlags := 33
  interfaces := #[]
  cf := some (fileOf pool0 8 #[] #[{ accessFlags := 1, nameIndex := 5, descriptorIndex := 6, attributes := #[] }] 33 0 #[] #[])
  fields := #[]
  methods := #[k0m0]
  instanceTypes := #[]
  staticTypes := #[]
  resolved := Array.replicate 124 none
  statics := none }

def pool1 : Array CpInfo := pool [(2, .class_ 4), (1, u "java/lang/Object"), (0, u "<init>"), (0, u "()V"), (0, .methodref 8 9), (0, .class_ 10), (0, .nameAndType 11 12), (0, u "com/example/federation/federation/PropertyConditionEqualsPinLaw"), (0, u "len"), (0, u "(I)I"), (0, .class_ 14), (0, u "java/lang/String"), (0, .methodref 13 16), (0, .nameAndType 5 17), (0, u "([C)V"), (0, .methodref 8 19), (0, .nameAndType 20 21), (0, u "pick"), (0, u "(IIII)I"), (0, .class_ 23), (0, u "com/example/federation/federation/PropertyCondition"), (0, .methodref 8 25), (0, .nameAndType 26 27), (0, u "str"), (0, u "(I)Ljava/lang/String;"), (0, .methodref 22 29), (0, .nameAndType 5 30), (0, u "(Ljava/lang/String;Ljava/lang/String;)V"), (0, .methodref 22 32), (0, .nameAndType 33 34), (0, u "equals"), (0, u "(Ljava/lang/Object;)Z"), (0, .methodref 8 36), (0, .nameAndType 37 12), (0, u "key"), (3, u "law"), (0, u "(IIIII)Z")] 2

def k1m0 : Method := { name := "<init>", desc := "()V", sig := { parameters := [], returnType := none }, accessFlags := 1, code := none }
def k1c1 : Code := { maxStack := 2, maxLocals := 1, code := method_2_code, exceptionTable := #[], attributes := #[] }
def k1m1 : Method := { name := "len", desc := "(I)I", sig := { parameters := [.int], returnType := some .int }, accessFlags := 10, code := some k1c1 }
def k1c2 : Code := { maxStack := 3, maxLocals := 3, code := method_3_code, exceptionTable := #[], attributes := #[] }
def k1m2 : Method := { name := "key", desc := "(I)I", sig := { parameters := [.int], returnType := some .int }, accessFlags := 10, code := some k1c2 }
def k1c3 : Code := { maxStack := 6, maxLocals := 4, code := method_4_code, exceptionTable := #[], attributes := #[] }
def k1m3 : Method := { name := "str", desc := "(I)Ljava/lang/String;", sig := { parameters := [.int], returnType := some (.object "java/lang/String") }, accessFlags := 10, code := some k1c3 }
def k1c4 : Code := { maxStack := 2, maxLocals := 4, code := method_5_code, exceptionTable := #[], attributes := #[] }
def k1m4 : Method := { name := "pick", desc := "(IIII)I", sig := { parameters := [.int, .int, .int, .int], returnType := some .int }, accessFlags := 10, code := some k1c4 }
def k1c5 : Code := { maxStack := 4, maxLocals := 11, code := code, exceptionTable := #[], attributes := #[] }
def k1m5 : Method := { name := "law", desc := "(IIIII)Z", sig := { parameters := [.int, .int, .int, .int, .int], returnType := some .boolean }, accessFlags := 9, code := some k1c5 }
/-- com/example/federation/federation/PropertyConditionEqualsPinLaw -/
def k1 : Class := { plain "com/example/federation/federation/PropertyConditionEqualsPinLaw" (some 0) with
  accessFlags := 49
  interfaces := #[]
  cf := some (fileOf pool1 8 #[] #[{ accessFlags := 1, nameIndex := 5, descriptorIndex := 6, attributes := #[] }, { accessFlags := 10, nameIndex := 11, descriptorIndex := 12, attributes := #[] }, { accessFlags := 10, nameIndex := 37, descriptorIndex := 12, attributes := #[] }, { accessFlags := 10, nameIndex := 26, descriptorIndex := 27, attributes := #[] }, { accessFlags := 10, nameIndex := 20, descriptorIndex := 21, attributes := #[] }, { accessFlags := 9, nameIndex := 41, descriptorIndex := 42, attributes := #[] }] 49 2 #[] #[])
  fields := #[]
  methods := #[k1m0, k1m1, k1m2, k1m3, k1m4, k1m5]
  instanceTypes := #[]
  staticTypes := #[]
  resolved := Array.replicate 45 none
  statics := none }

def pool2 : Array CpInfo := pool [(1, .methodref 2 3), (0, .class_ 4), (0, .nameAndType 5 6), (0, u "java/lang/Object"), (0, u "<init>"), (0, u "()V"), (0, .fieldref 8 9), (0, .class_ 10), (0, .nameAndType 11 12), (0, u "com/example/federation/federation/PropertyCondition"), (0, u "left"), (0, u "Ljava/lang/String;"), (0, .fieldref 8 14), (0, .nameAndType 15 12), (0, u "right"), (24, .class_ 41), (0, u "java/lang/String"), (23, .methodref 40 66), (0, .nameAndType 67 68), (0, u "equals"), (0, u "(Ljava/lang/Object;)Z"), (42, u "(Ljava/lang/String;Ljava/lang/String;)V"), (10, u "SUBJECT"), (1, u "RESOURCE")] 46

def k2c0 : Code := { maxStack := 2, maxLocals := 3, code := prog_40_method_1_code, exceptionTable := #[], attributes := #[] }
def k2m0 : Method := { name := "<init>", desc := "(Ljava/lang/String;Ljava/lang/String;)V", sig := { parameters := [(.object "java/lang/String"), (.object "java/lang/String")], returnType := none }, accessFlags := 0, code := some k2c0 }
def k2c1 : Code := { maxStack := 2, maxLocals := 3, code := prog_40_method_6_code, exceptionTable := #[], attributes := #[] }
def k2m1 : Method := { name := "equals", desc := "(Ljava/lang/Object;)Z", sig := { parameters := [(.object "java/lang/Object")], returnType := some .boolean }, accessFlags := 1, code := some k2c1 }
/-- com/example/federation/federation/PropertyCondition -/
def k2 : Class := { plain "com/example/federation/federation/PropertyCondition" (some 0) with
  accessFlags := 48
  interfaces := #[]
  cf := some (fileOf pool2 8 #[] #[{ accessFlags := 0, nameIndex := 5, descriptorIndex := 111, attributes := #[] }, { accessFlags := 1, nameIndex := 67, descriptorIndex := 68, attributes := #[] }] 48 2 #[] #[{ accessFlags := 24, nameIndex := 122, descriptorIndex := 12, attributes := #[] }, { accessFlags := 24, nameIndex := 124, descriptorIndex := 12, attributes := #[] }, { accessFlags := 18, nameIndex := 11, descriptorIndex := 12, attributes := #[] }, { accessFlags := 18, nameIndex := 15, descriptorIndex := 12, attributes := #[] }])
  fields := #[{ name := "SUBJECT", type := (.object "java/lang/String"), accessFlags := 24, slot := 0, constantValue := 0 }, { name := "RESOURCE", type := (.object "java/lang/String"), accessFlags := 24, slot := 1, constantValue := 0 }, { name := "left", type := (.object "java/lang/String"), accessFlags := 18, slot := 0, constantValue := 0 }, { name := "right", type := (.object "java/lang/String"), accessFlags := 18, slot := 1, constantValue := 0 }]
  methods := #[k2m0, k2m1]
  instanceTypes := #[(.object "java/lang/String"), (.object "java/lang/String")]
  staticTypes := #[(.object "java/lang/String"), (.object "java/lang/String")]
  resolved := Array.replicate 171 none
  statics := none }

def pool3 : Array CpInfo := pool [(1, .class_ 2), (0, u "java/io/Serializable"), (0, .class_ 4), (0, u "java/lang/Object")] 2

/-- java/io/Serializable -/
def k3 : Class := { plain "java/io/Serializable" (some 0) with
  accessFlags := 1537
  interfaces := #[]
  cf := some (fileOf pool3 1 #[] #[] 1537 3 #[] #[])
  fields := #[]
  methods := #[]
  instanceTypes := #[]
  staticTypes := #[]
  resolved := Array.replicate 7 none
  statics := none }

def pool4 : Array CpInfo := pool [(1, .class_ 2), (0, u "java/lang/Comparable"), (0, .class_ 4), (0, u "java/lang/Object")] 7

/-- java/lang/Comparable -/
def k4 : Class := { plain "java/lang/Comparable" (some 0) with
  accessFlags := 1537
  interfaces := #[]
  cf := some (fileOf pool4 1 #[] #[] 1537 3 #[] #[])
  fields := #[]
  methods := #[]
  instanceTypes := #[]
  staticTypes := #[]
  resolved := Array.replicate 12 none
  statics := none }

def pool5 : Array CpInfo := pool [(2, .class_ 4), (1, u "java/lang/CharSequence"), (42, .class_ 48), (0, u "java/lang/CharSequence$1CodePointIterator"), (10, .class_ 60), (0, u "java/lang/CharSequence$1CharIterator"), (5, .class_ 67), (0, u "java/lang/Object")] 63

/-- java/lang/CharSequence -/
def k5 : Class := { plain "java/lang/CharSequence" (some 0) with
  accessFlags := 1537
  interfaces := #[]
  cf := some (fileOf pool5 2 #[.nestMembers #[47, 59]] #[] 1537 66 #[] #[])
  fields := #[]
  methods := #[]
  instanceTypes := #[]
  staticTypes := #[]
  resolved := Array.replicate 131 none
  statics := none }

def pool6 : Array CpInfo := pool [(1, .class_ 2), (0, u "java/lang/constant/Constable"), (0, .class_ 4), (0, u "java/lang/Object")] 6

/-- java/lang/constant/Constable -/
def k6 : Class := { plain "java/lang/constant/Constable" (some 0) with
  accessFlags := 1537
  interfaces := #[]
  cf := some (fileOf pool6 1 #[] #[] 1537 3 #[] #[])
  fields := #[]
  methods := #[]
  instanceTypes := #[]
  staticTypes := #[]
  resolved := Array.replicate 11 none
  statics := none }

def pool7 : Array CpInfo := pool [(1, .class_ 2), (0, u "java/lang/constant/ConstantDesc"), (0, .class_ 4), (0, u "java/lang/Object")] 32

/-- java/lang/constant/ConstantDesc -/
def k7 : Class := { plain "java/lang/constant/ConstantDesc" (some 0) with
  accessFlags := 1537
  interfaces := #[]
  cf := some (fileOf pool7 1 #[] #[] 1537 3 #[] #[])
  fields := #[]
  methods := #[]
  instanceTypes := #[]
  staticTypes := #[]
  resolved := Array.replicate 37 none
  statics := none }

def pool8 : Array CpInfo := pool [(1, .methodref 2 3), (0, .class_ 4), (0, .nameAndType 5 6), (0, u "java/lang/Object"), (0, u "<init>"), (0, u "()V"), (0, .string 8), (0, u ""), (0, .fieldref 10 11), (0, .class_ 12), (0, .nameAndType 13 14), (0, u "java/lang/String"), (0, u "value"), (0, u "[B"), (0, .fieldref 10 16), (0, .nameAndType 17 18), (0, u "coder"), (0, u "B"), (2, u "hash"), (0, u "I"), (2, u "hashIsZero"), (0, u "Z"), (0, .methodref 10 28), (0, .nameAndType 5 29), (0, u "([CIILjava/lang/Void;)V"), (8, .fieldref 10 39), (0, .nameAndType 40 26), (0, u "COMPACT_STRINGS"), (1, .class_ 44), (1, u "java/lang/StringUTF16"), (0, u "compress"), (1, .methodref 42 48), (0, .nameAndType 49 50), (0, u "coderFromArrayLen"), (0, u "([BI)B"), (56, .class_ 109), (1, u "java/lang/StringLatin1"), (67, .methodref 42 178), (0, .nameAndType 45 179), (0, u "([CII)[B"), (361, .methodref 107 542), (0, .nameAndType 543 544), (0, u "equals"), (0, u "([B[B)Z"), (28, u "(Ljava/lang/Object;)Z"), (1, .class_ 576), (0, u "java/lang/CharSequence"), (22, u "CASE_INSENSITIVE_ORDER"), (0, u "Ljava/util/Comparator;"), (409, u "([C)V"), (90, u "serialPersistentFields"), (0, u "[Ljava/io/ObjectStreamField;"), (0, .class_ 1104), (0, u "java/lang/String$CaseInsensitiveComparator"), (1, .class_ 1107), (0, u "java/io/Serializable"), (0, .class_ 1109), (0, u "java/lang/Comparable"), (0, .class_ 1111), (0, u "java/lang/constant/Constable"), (0, .class_ 1113), (0, u "java/lang/constant/ConstantDesc"), (2, u "serialVersionUID"), (0, u "J"), (3, u "REPL"), (0, u "C"), (2, u "LATIN1"), (1, u "UTF16")] 323

def k8m0 : Method := { name := "<init>", desc := "()V", sig := { parameters := [], returnType := none }, accessFlags := 1, code := none }
def k8c1 : Code := { maxStack := 5, maxLocals := 2, code := jdk_42_method_3_code, exceptionTable := #[], attributes := #[] }
def k8m1 : Method := { name := "<init>", desc := "([C)V", sig := { parameters := [(.array .char)], returnType := none }, accessFlags := 1, code := some k8c1 }
def k8c2 : Code := { maxStack := 2, maxLocals := 3, code := jdk_42_method_66_code, exceptionTable := #[], attributes := #[] }
def k8m2 : Method := { name := "equals", desc := "(Ljava/lang/Object;)Z", sig := { parameters := [(.object "java/lang/Object")], returnType := some .boolean }, accessFlags := 1, code := some k8c2 }
def k8c3 : Code := { maxStack := 4, maxLocals := 6, code := jdk_42_method_149_code, exceptionTable := #[], attributes := #[] }
def k8m3 : Method := { name := "<init>", desc := "([CIILjava/lang/Void;)V", sig := { parameters := [(.array .char), .int, .int, (.object "java/lang/Void")], returnType := none }, accessFlags := 2, code := some k8c3 }
/-- java/lang/String -/
def k8 : Class := { plain "java/lang/String" (some 0) with
  accessFlags := 49
  interfaces := #[3, 4, 5, 6, 7]
  cf := some (fileOf pool8 10 #[.nestMembers #[1103]] #[{ accessFlags := 1, nameIndex := 5, descriptorIndex := 6, attributes := #[] }, { accessFlags := 1, nameIndex := 5, descriptorIndex := 1010, attributes := #[] }, { accessFlags := 1, nameIndex := 543, descriptorIndex := 573, attributes := #[] }, { accessFlags := 2, nameIndex := 5, descriptorIndex := 29, attributes := #[] }] 49 2 #[1106, 1108, 575, 1110, 1112] #[{ accessFlags := 18, nameIndex := 13, descriptorIndex := 14, attributes := #[] }, { accessFlags := 18, nameIndex := 17, descriptorIndex := 18, attributes := #[] }, { accessFlags := 2, nameIndex := 21, descriptorIndex := 22, attributes := #[] }, { accessFlags := 2, nameIndex := 25, descriptorIndex := 26, attributes := #[] }, { accessFlags := 26, nameIndex := 1116, descriptorIndex := 1117, attributes := #[] }, { accessFlags := 24, nameIndex := 40, descriptorIndex := 26, attributes := #[] }, { accessFlags := 26, nameIndex := 1101, descriptorIndex := 1102, attributes := #[] }, { accessFlags := 26, nameIndex := 1121, descriptorIndex := 1122, attributes := #[] }, { accessFlags := 25, nameIndex := 599, descriptorIndex := 600, attributes := #[] }, { accessFlags := 24, nameIndex := 1125, descriptorIndex := 18, attributes := #[] }, { accessFlags := 24, nameIndex := 1127, descriptorIndex := 18, attributes := #[] }])
  fields := #[{ name := "value", type := (.array .byte), accessFlags := 18, slot := 0, constantValue := 0 }, { name := "coder", type := .byte, accessFlags := 18, slot := 1, constantValue := 0 }, { name := "hash", type := .int, accessFlags := 2, slot := 2, constantValue := 0 }, { name := "hashIsZero", type := .boolean, accessFlags := 2, slot := 3, constantValue := 0 }, { name := "serialVersionUID", type := .long, accessFlags := 26, slot := 0, constantValue := 0 }, { name := "COMPACT_STRINGS", type := .boolean, accessFlags := 24, slot := 1, constantValue := 0 }, { name := "serialPersistentFields", type := (.array (.object "java/io/ObjectStreamField")), accessFlags := 26, slot := 2, constantValue := 0 }, { name := "REPL", type := .char, accessFlags := 26, slot := 3, constantValue := 0 }, { name := "CASE_INSENSITIVE_ORDER", type := (.object "java/util/Comparator"), accessFlags := 25, slot := 4, constantValue := 0 }, { name := "LATIN1", type := .byte, accessFlags := 24, slot := 5, constantValue := 0 }, { name := "UTF16", type := .byte, accessFlags := 24, slot := 6, constantValue := 0 }]
  methods := #[k8m0, k8m1, k8m2, k8m3]
  instanceTypes := #[(.array .byte), .byte, .int, .boolean]
  staticTypes := #[.long, .boolean, (.array (.object "java/io/ObjectStreamField")), .char, (.object "java/util/Comparator"), .byte, .byte]
  resolved := Array.replicate 1451 none
  statics := some 0 }

def pool9 : Array CpInfo := pool [(4, .class_ 6), (1, u "java/lang/Object"), (0, u "<init>"), (0, u "()V"), (5, .class_ 16), (1, u "java/lang/StringLatin1"), (104, u "$assertionsDisabled"), (0, u "Z"), (98, .class_ 223), (1, u "java/lang/StringLatin1$LinesSpliterator"), (57, u "equals"), (0, u "([B[B)Z"), (107, .class_ 391), (0, u "java/lang/StringLatin1$CharsSpliterator")] 3

def k9m0 : Method := { name := "<init>", desc := "()V", sig := { parameters := [], returnType := none }, accessFlags := 0, code := none }
def k9c1 : Code := { maxStack := 3, maxLocals := 3, code := jdk_43_method_13_code, exceptionTable := #[], attributes := #[] }
def k9m1 : Method := { name := "equals", desc := "([B[B)Z", sig := { parameters := [(.array .byte), (.array .byte)], returnType := some .boolean }, accessFlags := 9, code := some k9c1 }
/-- java/lang/StringLatin1 -/
def k9 : Class := { plain "java/lang/StringLatin1" (some 0) with
  accessFlags := 48
  interfaces := #[]
  cf := some (fileOf pool9 14 #[.nestMembers #[390, 221]] #[{ accessFlags := 0, nameIndex := 7, descriptorIndex := 8, attributes := #[] }, { accessFlags := 9, nameIndex := 281, descriptorIndex := 282, attributes := #[] }] 48 4 #[] #[{ accessFlags := 4120, nameIndex := 121, descriptorIndex := 122, attributes := #[] }])
  fields := #[{ name := "$assertionsDisabled", type := .boolean, accessFlags := 4120, slot := 0, constantValue := 0 }]
  methods := #[k9m0, k9m1]
  instanceTypes := #[]
  staticTypes := #[.boolean]
  resolved := Array.replicate 395 none
  statics := none }

def pool10 : Array CpInfo := pool [(6, .class_ 8), (1, u "java/lang/Object"), (0, u "<init>"), (0, u "()V"), (1, .class_ 14), (1, u "java/lang/StringUTF16"), (31, u "$assertionsDisabled"), (0, u "Z"), (13, u "HI_BYTE_SHIFT"), (0, u "I"), (2, u "LO_BYTE_SHIFT"), (49, .methodref 12 116), (0, .nameAndType 117 118), (0, u "compress"), (0, u "([CI[BII)I"), (3, u "([CII)[B"), (138, u "coderFromArrayLen"), (0, u "([BI)B"), (106, .class_ 371), (1, u "java/lang/StringUTF16$LinesSpliterator"), (58, u "MAX_LENGTH"), (196, .class_ 628), (0, u "java/lang/StringUTF16$CodePointsSpliterator"), (0, .class_ 630), (0, u "java/lang/StringUTF16$CharsSpliterator")] 4

def k10m0 : Method := { name := "<init>", desc := "()V", sig := { parameters := [], returnType := none }, accessFlags := 0, code := none }
def k10c1 : Code := { maxStack := 2, maxLocals := 2, code := jdk_52_method_15_code, exceptionTable := #[], attributes := #[] }
def k10m1 : Method := { name := "coderFromArrayLen", desc := "([BI)B", sig := { parameters := [(.array .byte), .int], returnType := some .byte }, accessFlags := 8, code := some k10c1 }
def k10c2 : Code := { maxStack := 5, maxLocals := 6, code := jdk_52_method_16_code, exceptionTable := #[], attributes := #[] }
def k10m2 : Method := { name := "compress", desc := "([CII)[B", sig := { parameters := [(.array .char), .int, .int], returnType := some (.array .byte) }, accessFlags := 9, code := some k10c2 }
def k10c3 : Code := { maxStack := 3, maxLocals := 7, code := jdk_52_method_21_code, exceptionTable := #[], attributes := #[] }
def k10m3 : Method := { name := "compress", desc := "([CI[BII)I", sig := { parameters := [(.array .char), .int, (.array .byte), .int, .int], returnType := some .int }, accessFlags := 9, code := some k10c3 }
/-- java/lang/StringUTF16 -/
def k10 : Class := { plain "java/lang/StringUTF16" (some 0) with
  accessFlags := 48
  interfaces := #[]
  cf := some (fileOf pool10 12 #[.nestMembers #[627, 629, 369]] #[{ accessFlags := 0, nameIndex := 9, descriptorIndex := 10, attributes := #[] }, { accessFlags := 8, nameIndex := 261, descriptorIndex := 262, attributes := #[] }, { accessFlags := 9, nameIndex := 117, descriptorIndex := 122, attributes := #[] }, { accessFlags := 9, nameIndex := 117, descriptorIndex := 118, attributes := #[] }] 48 6 #[] #[{ accessFlags := 26, nameIndex := 61, descriptorIndex := 62, attributes := #[] }, { accessFlags := 26, nameIndex := 65, descriptorIndex := 62, attributes := #[] }, { accessFlags := 24, nameIndex := 430, descriptorIndex := 62, attributes := #[] }, { accessFlags := 4120, nameIndex := 46, descriptorIndex := 47, attributes := #[] }])
  fields := #[{ name := "HI_BYTE_SHIFT", type := .int, accessFlags := 26, slot := 0, constantValue := 0 }, { name := "LO_BYTE_SHIFT", type := .int, accessFlags := 26, slot := 1, constantValue := 0 }, { name := "MAX_LENGTH", type := .int, accessFlags := 24, slot := 2, constantValue := 0 }, { name := "$assertionsDisabled", type := .boolean, accessFlags := 4120, slot := 3, constantValue := 0 }]
  methods := #[k10m0, k10m1, k10m2, k10m3]
  instanceTypes := #[]
  staticTypes := #[.int, .int, .int, .boolean]
  resolved := Array.replicate 635 none
  statics := none }

def pool11 : Array CpInfo := pool [(2, .class_ 4), (1, u "java/lang/Object"), (0, u "<init>"), (0, u "()V"), (17, .class_ 26), (1, u "jdk/internal/util/Preconditions"), (28, .class_ 56), (0, u "jdk/internal/util/Preconditions$4"), (57, .class_ 115), (0, u "jdk/internal/util/Preconditions$1"), (7, u "SIOOBE_FORMATTER"), (0, u "Ljava/util/function/BiFunction;"), (0, .class_ 126), (0, u "jdk/internal/util/Preconditions$2"), (3, u "AIOOBE_FORMATTER"), (0, .class_ 132), (0, u "jdk/internal/util/Preconditions$3"), (3, u "IOOBE_FORMATTER")] 57

def k11m0 : Method := { name := "<init>", desc := "()V", sig := { parameters := [], returnType := none }, accessFlags := 1, code := none }
/-- jdk/internal/util/Preconditions -/
def k11 : Class := { plain "jdk/internal/util/Preconditions" (some 0) with
  accessFlags := 33
  interfaces := #[]
  cf := some (fileOf pool11 24 #[.nestMembers #[55, 131, 125, 114]] #[{ accessFlags := 1, nameIndex := 5, descriptorIndex := 6, attributes := #[] }] 33 2 #[] #[{ accessFlags := 25, nameIndex := 123, descriptorIndex := 124, attributes := #[] }, { accessFlags := 25, nameIndex := 130, descriptorIndex := 124, attributes := #[] }, { accessFlags := 25, nameIndex := 136, descriptorIndex := 124, attributes := #[] }])
  fields := #[{ name := "SIOOBE_FORMATTER", type := (.object "java/util/function/BiFunction"), accessFlags := 25, slot := 0, constantValue := 0 }, { name := "AIOOBE_FORMATTER", type := (.object "java/util/function/BiFunction"), accessFlags := 25, slot := 1, constantValue := 0 }, { name := "IOOBE_FORMATTER", type := (.object "java/util/function/BiFunction"), accessFlags := 25, slot := 2, constantValue := 0 }]
  methods := #[k11m0]
  instanceTypes := #[]
  staticTypes := #[(.object "java/util/function/BiFunction"), (.object "java/util/function/BiFunction"), (.object "java/util/function/BiFunction")]
  resolved := Array.replicate 194 none
  statics := some 1 }

def pool12 : Array CpInfo := pool [(9, u "<init>"), (6, .class_ 18), (1, u "java/lang/Object"), (0, u "()V"), (1, .class_ 23), (1, u "jdk/internal/util/ArraysSupport"), (0, u "LOG2_ARRAY_LONG_INDEX_SCALE"), (0, u "I"), (2, u "U"), (0, u "Ljdk/internal/misc/Unsafe;"), (8, u "BIG_ENDIAN"), (0, u "Z"), (8, u "LOG2_BYTE_BIT_SIZE"), (4, u "LOG2_ARRAY_INT_INDEX_SCALE"), (54, u "JLA"), (0, u "Ljdk/internal/access/JavaLangAccess;"), (11, u "LOG2_ARRAY_BOOLEAN_INDEX_SCALE"), (9, u "LOG2_ARRAY_BYTE_INDEX_SCALE"), (5, u "LOG2_ARRAY_CHAR_INDEX_SCALE"), (5, u "LOG2_ARRAY_SHORT_INDEX_SCALE"), (18, u "LOG2_ARRAY_FLOAT_INDEX_SCALE"), (24, u "LOG2_ARRAY_DOUBLE_INDEX_SCALE"), (89, u "T_BOOLEAN"), (2, u "T_CHAR"), (1, u "T_FLOAT"), (1, u "T_DOUBLE"), (1, u "T_BYTE"), (1, u "T_SHORT"), (1, u "T_INT"), (1, u "T_LONG"), (1, u "SOFT_MAX_ARRAY_LENGTH")] 83

def k12m0 : Method := { name := "<init>", desc := "()V", sig := { parameters := [], returnType := none }, accessFlags := 2, code := none }
/-- jdk/internal/util/ArraysSupport -/
def k12 : Class := { plain "jdk/internal/util/ArraysSupport" (some 0) with
  accessFlags := 33
  interfaces := #[]
  cf := some (fileOf pool12 21 #[] #[{ accessFlags := 2, nameIndex := 9, descriptorIndex := 19, attributes := #[] }] 33 16 #[] #[{ accessFlags := 24, nameIndex := 28, descriptorIndex := 29, attributes := #[] }, { accessFlags := 26, nameIndex := 38, descriptorIndex := 39, attributes := #[] }, { accessFlags := 25, nameIndex := 121, descriptorIndex := 25, attributes := #[] }, { accessFlags := 25, nameIndex := 131, descriptorIndex := 25, attributes := #[] }, { accessFlags := 25, nameIndex := 137, descriptorIndex := 25, attributes := #[] }, { accessFlags := 25, nameIndex := 143, descriptorIndex := 25, attributes := #[] }, { accessFlags := 25, nameIndex := 53, descriptorIndex := 25, attributes := #[] }, { accessFlags := 25, nameIndex := 24, descriptorIndex := 25, attributes := #[] }, { accessFlags := 25, nameIndex := 162, descriptorIndex := 25, attributes := #[] }, { accessFlags := 25, nameIndex := 187, descriptorIndex := 25, attributes := #[] }, { accessFlags := 26, nameIndex := 48, descriptorIndex := 25, attributes := #[] }, { accessFlags := 25, nameIndex := 277, descriptorIndex := 25, attributes := #[] }, { accessFlags := 25, nameIndex := 280, descriptorIndex := 25, attributes := #[] }, { accessFlags := 25, nameIndex := 282, descriptorIndex := 25, attributes := #[] }, { accessFlags := 25, nameIndex := 284, descriptorIndex := 25, attributes := #[] }, { accessFlags := 25, nameIndex := 286, descriptorIndex := 25, attributes := #[] }, { accessFlags := 25, nameIndex := 288, descriptorIndex := 25, attributes := #[] }, { accessFlags := 25, nameIndex := 290, descriptorIndex := 25, attributes := #[] }, { accessFlags := 25, nameIndex := 292, descriptorIndex := 25, attributes := #[] }, { accessFlags := 26, nameIndex := 108, descriptorIndex := 109, attributes := #[] }, { accessFlags := 25, nameIndex := 294, descriptorIndex := 25, attributes := #[] }])
  fields := #[{ name := "U", type := (.object "jdk/internal/misc/Unsafe"), accessFlags := 24, slot := 0, constantValue := 0 }, { name := "BIG_ENDIAN", type := .boolean, accessFlags := 26, slot := 1, constantValue := 0 }, { name := "LOG2_ARRAY_BOOLEAN_INDEX_SCALE", type := .int, accessFlags := 25, slot := 2, constantValue := 0 }, { name := "LOG2_ARRAY_BYTE_INDEX_SCALE", type := .int, accessFlags := 25, slot := 3, constantValue := 0 }, { name := "LOG2_ARRAY_CHAR_INDEX_SCALE", type := .int, accessFlags := 25, slot := 4, constantValue := 0 }, { name := "LOG2_ARRAY_SHORT_INDEX_SCALE", type := .int, accessFlags := 25, slot := 5, constantValue := 0 }, { name := "LOG2_ARRAY_INT_INDEX_SCALE", type := .int, accessFlags := 25, slot := 6, constantValue := 0 }, { name := "LOG2_ARRAY_LONG_INDEX_SCALE", type := .int, accessFlags := 25, slot := 7, constantValue := 0 }, { name := "LOG2_ARRAY_FLOAT_INDEX_SCALE", type := .int, accessFlags := 25, slot := 8, constantValue := 0 }, { name := "LOG2_ARRAY_DOUBLE_INDEX_SCALE", type := .int, accessFlags := 25, slot := 9, constantValue := 0 }, { name := "LOG2_BYTE_BIT_SIZE", type := .int, accessFlags := 26, slot := 10, constantValue := 0 }, { name := "T_BOOLEAN", type := .int, accessFlags := 25, slot := 11, constantValue := 0 }, { name := "T_CHAR", type := .int, accessFlags := 25, slot := 12, constantValue := 0 }, { name := "T_FLOAT", type := .int, accessFlags := 25, slot := 13, constantValue := 0 }, { name := "T_DOUBLE", type := .int, accessFlags := 25, slot := 14, constantValue := 0 }, { name := "T_BYTE", type := .int, accessFlags := 25, slot := 15, constantValue := 0 }, { name := "T_SHORT", type := .int, accessFlags := 25, slot := 16, constantValue := 0 }, { name := "T_INT", type := .int, accessFlags := 25, slot := 17, constantValue := 0 }, { name := "T_LONG", type := .int, accessFlags := 25, slot := 18, constantValue := 0 }, { name := "JLA", type := (.object "jdk/internal/access/JavaLangAccess"), accessFlags := 26, slot := 19, constantValue := 0 }, { name := "SOFT_MAX_ARRAY_LENGTH", type := .int, accessFlags := 25, slot := 20, constantValue := 0 }]
  methods := #[k12m0]
  instanceTypes := #[]
  staticTypes := #[(.object "jdk/internal/misc/Unsafe"), .boolean, .int, .int, .int, .int, .int, .int, .int, .int, .int, .int, .int, .int, .int, .int, .int, .int, .int, (.object "jdk/internal/access/JavaLangAccess"), .int]
  resolved := Array.replicate 378 none
  statics := none }

def pool13 : Array CpInfo := pool [(1, u "java/lang/Cloneable"), (0, .class_ 1), (0, u "java/lang/Object"), (0, .class_ 3)] 3

/-- java/lang/Cloneable -/
def k13 : Class := { plain "java/lang/Cloneable" (some 0) with
  accessFlags := 1537
  interfaces := #[]
  cf := some (fileOf pool13 2 #[] #[] 1537 4 #[] #[])
  fields := #[]
  methods := #[]
  instanceTypes := #[]
  staticTypes := #[]
  resolved := Array.replicate 8 none
  statics := none }

/-- the primitive byte -/
def k14 : Class := { plain "byte" none with kind := .primitive 'B', accessFlags := 0x411 }
/-- [B -/
def k15 : Class := { plain "[B" (some 0) with kind := .array 14 .byte, interfaces := #[13, 3], accessFlags := 1041 }

/-- the primitive char -/
def k16 : Class := { plain "char" none with kind := .primitive 'C', accessFlags := 0x411 }
/-- [C -/
def k17 : Class := { plain "[C" (some 0) with kind := .array 16 .char, interfaces := #[13, 3], accessFlags := 1041 }

/-- the primitive int -/
def k18 : Class := { plain "int" none with kind := .primitive 'I', accessFlags := 0x411 }
/-- [I -/
def k19 : Class := { plain "[I" (some 0) with kind := .array 18 .int, interfaces := #[13, 3], accessFlags := 1041 }

def heap : Heap := #[{ cls := 8, slots := #[.long 0, .int 1, .null, .int 0, .null, .int 0, .int 0], vm := .statics 8 },
  { cls := 11, slots := #[.null, .null, .null], vm := .statics 11 }]
def classes : Array Class := #[k0, k1, k2, k3, k4, k5, k6, k7, k8, k9, k10, k11, k12, k13, k14, k15, k16, k17, k18, k19]
def interned : List (Array UInt16 × Addr) := []
def slotsUsed : Nat := 10
def theMethod : MethodId := ⟨1, 5⟩
def args0 : Array Value := #[.int 5, .int 5, .int 5, .int 5, .int 5]
def aboutOver (below : List Frame) : State where
  vm := { classes := classes, interned := interned.toArray }
  heap := heap
  slotsUsed := slotsUsed
  threads := #[{ frames := .invoking theMethod args0 :: below }]
def below0 : List Frame := [.native { method := ⟨0, 0⟩, args := #[] }]
def about1 : State := aboutOver below0
def p0 : Program := .bare "" "" ""
def e0 : Env := launch0.env 0 0 0
theorem w_frames : about1.frames = Frame.invoking theMethod args0 :: below0 := rfl
set_option maxRecDepth 65536 in
theorem w_args : argsFit about1.vm theMethod args0 = true := by decide +kernel
set_option maxRecDepth 65536 in
theorem w_heap : heapFits about1 = true := by decide +kernel
set_option maxRecDepth 65536 in
theorem w_runnable : about1.curStatus? = some .runnable := by decide +kernel
set_option maxRecDepth 65536 in
theorem w_alone : about1.alone = true := by decide +kernel
set_option maxRecDepth 65536 in
theorem w_named : about1.methodNamed? x = some theMethod := by decide +kernel
set_option maxRecDepth 65536 in
theorem w_hears : about1.hears theMethod below0 = true := by decide +kernel
set_option maxRecDepth 65536 in
theorem w_ripe : about1.ripe theMethod args0 below0 = true := by decide +kernel
theorem w_running : about1.status = .running := rfl
set_option maxRecDepth 65536 in
theorem w_room : about1.hasRoom e0.platform room_1 = true :=
  launch0.hasRoom_least _ room_1 (by decide +kernel) (by decide +kernel) (by decide +kernel) (by decide +kernel) (by decide +kernel) (by decide +kernel)
theorem allAtoms_all (ts : List Jvm.Cond) (a : Array Jvm.Value) (st : Jvm.State) : (allAtoms ts).before a st = ts.all (fun c => c.before a st) := by
  induction ts with
  | nil => rfl
  | cons c t ih =>
    show (Jvm.Cond.and c (allAtoms t)).before a st = _
    rw [Jvm.Cond.before_and, ih, List.all_cons]
def words1 : List Jvm.Cond := Jvm.Cond.code x code maxLocals ret :: tables_1
/-- a 'code' word, met by the world's own term for the bytes: nothing is compared byte by byte -/
theorem code_word {y : MethodName} {bytes : ByteArray} {mx : Nat} {rt : Option FieldType} {a : Array Value} {s : State} {m : MethodId} {meth : Method} {c : Code} (h1 : s.methodNamed? y = some m) (h2 : s.vm.method? m = some meth) (h3 : meth.code = some c) (h4 : c.code = bytes)
    (h5 : (c.maxLocals == mx && c.exceptionTable.isEmpty && decide (c.maxStack ≤ mostOperands) && decide (meth.sig.returnType = rt) && !meth.locks && decide (parseMethodDescriptor y.desc = some meth.sig)) = true) : (Jvm.Cond.code y bytes mx rt).before a s = true := by
  simp only [Bool.and_eq_true, beq_iff_eq, Bool.not_eq_true', decide_eq_true_eq] at h5
  obtain ⟨⟨⟨⟨⟨g1, g2⟩, g3⟩, g4⟩, g5⟩, g6⟩ := h5
  simp [Cond.before, Cond.holds, Cond.value, h1, h2, h3, h4, g1, g2, g3, g4, g5, g6]
def isCode : Jvm.Cond → Bool
  | .code _ _ _ _ => true
  | _ => false
theorem all_split {L : List Jvm.Cond} {P : Jvm.Cond → Bool} (h1 : L.all (fun c => isCode c || P c) = true) (h2 : ∀ c ∈ L.filter isCode, P c = true) : L.all P = true := by
  refine List.all_eq_true.mpr fun c hc => ?_
  have h := List.all_eq_true.mp h1 c hc
  rcases Bool.eq_false_or_eq_true (isCode c) with hi | hi
  · exact h2 c (List.mem_filter.mpr ⟨hc, hi⟩)
  · simpa [hi] using h
set_option maxRecDepth 65536 in
theorem w_c0 : (Jvm.Cond.code x code maxLocals ret).before args0 about1 = true := code_word (m := ⟨1, 5⟩) (meth := k1m5) (c := k1c5) (by decide +kernel) rfl rfl rfl (by decide +kernel)
set_option maxRecDepth 65536 in
theorem w_c1 : (Jvm.Cond.code ({ cls := "com/example/federation/federation/PropertyConditionEqualsPinLaw", name := "pick", desc := "(IIII)I" } : Jvm.MethodName) method_5_code (4 : Nat) (Option.some Jvm.ClassFile.FieldType.int)).before args0 about1 = true := code_word (m := ⟨1, 4⟩) (meth := k1m4) (c := k1c4) (by decide +kernel) rfl rfl rfl (by decide +kernel)
set_option maxRecDepth 65536 in
theorem w_c2 : (Jvm.Cond.code ({ cls := "com/example/federation/federation/PropertyConditionEqualsPinLaw", name := "str", desc := "(I)Ljava/lang/String;" } : Jvm.MethodName) method_4_code (4 : Nat) (Option.some (Jvm.ClassFile.FieldType.object "java/lang/String"))).before args0 about1 = true := code_word (m := ⟨1, 3⟩) (meth := k1m3) (c := k1c3) (by decide +kernel) rfl rfl rfl (by decide +kernel)
set_option maxRecDepth 65536 in
theorem w_c3 : (Jvm.Cond.code ({ cls := "com/example/federation/federation/PropertyConditionEqualsPinLaw", name := "len", desc := "(I)I" } : Jvm.MethodName) method_2_code (1 : Nat) (Option.some Jvm.ClassFile.FieldType.int)).before args0 about1 = true := code_word (m := ⟨1, 1⟩) (meth := k1m1) (c := k1c1) (by decide +kernel) rfl rfl rfl (by decide +kernel)
set_option maxRecDepth 65536 in
theorem w_c4 : (Jvm.Cond.code ({ cls := "java/lang/String", name := "<init>", desc := "([C)V" } : Jvm.MethodName) jdk_42_method_3_code (2 : Nat) (Option.none : Option Jvm.ClassFile.FieldType)).before args0 about1 = true := code_word (m := ⟨8, 1⟩) (meth := k8m1) (c := k8c1) (by decide +kernel) rfl rfl rfl (by decide +kernel)
set_option maxRecDepth 65536 in
theorem w_c5 : (Jvm.Cond.code ({ cls := "java/lang/String", name := "<init>", desc := "([CIILjava/lang/Void;)V" } : Jvm.MethodName) jdk_42_method_149_code (6 : Nat) (Option.none : Option Jvm.ClassFile.FieldType)).before args0 about1 = true := code_word (m := ⟨8, 3⟩) (meth := k8m3) (c := k8c3) (by decide +kernel) rfl rfl rfl (by decide +kernel)
set_option maxRecDepth 65536 in
theorem w_c6 : (Jvm.Cond.code ({ cls := "java/lang/Object", name := "<init>", desc := "()V" } : Jvm.MethodName) object_method_1_code (1 : Nat) (Option.none : Option Jvm.ClassFile.FieldType)).before args0 about1 = true := code_word (m := ⟨0, 0⟩) (meth := k0m0) (c := k0c0) (by decide +kernel) rfl rfl rfl (by decide +kernel)
set_option maxRecDepth 65536 in
theorem w_c7 : (Jvm.Cond.code ({ cls := "com/example/federation/federation/PropertyCondition", name := "<init>", desc := "(Ljava/lang/String;Ljava/lang/String;)V" } : Jvm.MethodName) prog_40_method_1_code (3 : Nat) (Option.none : Option Jvm.ClassFile.FieldType)).before args0 about1 = true := code_word (m := ⟨2, 0⟩) (meth := k2m0) (c := k2c0) (by decide +kernel) rfl rfl rfl (by decide +kernel)
set_option maxRecDepth 65536 in
theorem w_c8 : (Jvm.Cond.code ({ cls := "com/example/federation/federation/PropertyConditionEqualsPinLaw", name := "key", desc := "(I)I" } : Jvm.MethodName) method_3_code (3 : Nat) (Option.some Jvm.ClassFile.FieldType.int)).before args0 about1 = true := code_word (m := ⟨1, 2⟩) (meth := k1m2) (c := k1c2) (by decide +kernel) rfl rfl rfl (by decide +kernel)
set_option maxRecDepth 65536 in
theorem w_c9 : (Jvm.Cond.code ({ cls := "com/example/federation/federation/PropertyCondition", name := "equals", desc := "(Ljava/lang/Object;)Z" } : Jvm.MethodName) prog_40_method_6_code (3 : Nat) (Option.some Jvm.ClassFile.FieldType.boolean)).before args0 about1 = true := code_word (m := ⟨2, 1⟩) (meth := k2m1) (c := k2c1) (by decide +kernel) rfl rfl rfl (by decide +kernel)
set_option maxRecDepth 65536 in
theorem w_c10 : (Jvm.Cond.code ({ cls := "java/lang/String", name := "equals", desc := "(Ljava/lang/Object;)Z" } : Jvm.MethodName) jdk_42_method_66_code (3 : Nat) (Option.some Jvm.ClassFile.FieldType.boolean)).before args0 about1 = true := code_word (m := ⟨8, 2⟩) (meth := k8m2) (c := k8c2) (by decide +kernel) rfl rfl rfl (by decide +kernel)
set_option maxRecDepth 65536 in
theorem w_c11 : (Jvm.Cond.code ({ cls := "java/lang/StringLatin1", name := "equals", desc := "([B[B)Z" } : Jvm.MethodName) jdk_43_method_13_code (3 : Nat) (Option.some Jvm.ClassFile.FieldType.boolean)).before args0 about1 = true := code_word (m := ⟨9, 1⟩) (meth := k9m1) (c := k9c1) (by decide +kernel) rfl rfl rfl (by decide +kernel)
set_option maxRecDepth 65536 in
theorem w_c12 : (Jvm.Cond.code ({ cls := "java/lang/StringUTF16", name := "compress", desc := "([CII)[B" } : Jvm.MethodName) jdk_52_method_16_code (6 : Nat) (Option.some (Jvm.ClassFile.FieldType.array Jvm.ClassFile.FieldType.byte))).before args0 about1 = true := code_word (m := ⟨10, 2⟩) (meth := k10m2) (c := k10c2) (by decide +kernel) rfl rfl rfl (by decide +kernel)
set_option maxRecDepth 65536 in
theorem w_c13 : (Jvm.Cond.code ({ cls := "java/lang/StringUTF16", name := "compress", desc := "([CI[BII)I" } : Jvm.MethodName) jdk_52_method_21_code (7 : Nat) (Option.some Jvm.ClassFile.FieldType.int)).before args0 about1 = true := code_word (m := ⟨10, 3⟩) (meth := k10m3) (c := k10c3) (by decide +kernel) rfl rfl rfl (by decide +kernel)
set_option maxRecDepth 65536 in
theorem w_c14 : (Jvm.Cond.code ({ cls := "java/lang/StringUTF16", name := "coderFromArrayLen", desc := "([BI)B" } : Jvm.MethodName) jdk_52_method_15_code (2 : Nat) (Option.some Jvm.ClassFile.FieldType.byte)).before args0 about1 = true := code_word (m := ⟨10, 1⟩) (meth := k10m1) (c := k10c1) (by decide +kernel) rfl rfl rfl (by decide +kernel)
def codes1 : List Jvm.Cond := [Jvm.Cond.code x code maxLocals ret, Jvm.Cond.code ({ cls := "com/example/federation/federation/PropertyConditionEqualsPinLaw", name := "pick", desc := "(IIII)I" } : Jvm.MethodName) method_5_code (4 : Nat) (Option.some Jvm.ClassFile.FieldType.int), Jvm.Cond.code ({ cls := "com/example/federation/federation/PropertyConditionEqualsPinLaw", name := "str", desc := "(I)Ljava/lang/String;" } : Jvm.MethodName) method_4_code (4 : Nat) (Option.some (Jvm.ClassFile.FieldType.object "java/lang/String")), Jvm.Cond.code ({ cls := "com/example/federation/federation/PropertyConditionEqualsPinLaw", name := "len", desc := "(I)I" } : Jvm.MethodName) method_2_code (1 : Nat) (Option.some Jvm.ClassFile.FieldType.int), Jvm.Cond.code ({ cls := "java/lang/String", name := "<init>", desc := "([C)V" } : Jvm.MethodName) jdk_42_method_3_code (2 : Nat) (Option.none : Option Jvm.ClassFile.FieldType), Jvm.Cond.code ({ cls := "java/lang/String", name := "<init>", desc := "([CIILjava/lang/Void;)V" } : Jvm.MethodName) jdk_42_method_149_code (6 : Nat) (Option.none : Option Jvm.ClassFile.FieldType), Jvm.Cond.code ({ cls := "java/lang/Object", name := "<init>", desc := "()V" } : Jvm.MethodName) object_method_1_code (1 : Nat) (Option.none : Option Jvm.ClassFile.FieldType), Jvm.Cond.code ({ cls := "com/example/federation/federation/PropertyCondition", name := "<init>", desc := "(Ljava/lang/String;Ljava/lang/String;)V" } : Jvm.MethodName) prog_40_method_1_code (3 : Nat) (Option.none : Option Jvm.ClassFile.FieldType), Jvm.Cond.code ({ cls := "com/example/federation/federation/PropertyConditionEqualsPinLaw", name := "key", desc := "(I)I" } : Jvm.MethodName) method_3_code (3 : Nat) (Option.some Jvm.ClassFile.FieldType.int), Jvm.Cond.code ({ cls := "com/example/federation/federation/PropertyCondition", name := "equals", desc := "(Ljava/lang/Object;)Z" } : Jvm.MethodName) prog_40_method_6_code (3 : Nat) (Option.some Jvm.ClassFile.FieldType.boolean), Jvm.Cond.code ({ cls := "java/lang/String", name := "equals", desc := "(Ljava/lang/Object;)Z" } : Jvm.MethodName) jdk_42_method_66_code (3 : Nat) (Option.some Jvm.ClassFile.FieldType.boolean), Jvm.Cond.code ({ cls := "java/lang/StringLatin1", name := "equals", desc := "([B[B)Z" } : Jvm.MethodName) jdk_43_method_13_code (3 : Nat) (Option.some Jvm.ClassFile.FieldType.boolean), Jvm.Cond.code ({ cls := "java/lang/StringUTF16", name := "compress", desc := "([CII)[B" } : Jvm.MethodName) jdk_52_method_16_code (6 : Nat) (Option.some (Jvm.ClassFile.FieldType.array Jvm.ClassFile.FieldType.byte)), Jvm.Cond.code ({ cls := "java/lang/StringUTF16", name := "compress", desc := "([CI[BII)I" } : Jvm.MethodName) jdk_52_method_21_code (7 : Nat) (Option.some Jvm.ClassFile.FieldType.int), Jvm.Cond.code ({ cls := "java/lang/StringUTF16", name := "coderFromArrayLen", desc := "([BI)B" } : Jvm.MethodName) jdk_52_method_15_code (2 : Nat) (Option.some Jvm.ClassFile.FieldType.byte)]
set_option maxRecDepth 65536 in
theorem codes_eq : words1.filter isCode = codes1 := rfl
theorem w_codes : ∀ c ∈ words1.filter isCode, c.before args0 about1 = true := by
  rw [codes_eq]
  intro c hc
  simp only [codes1, List.mem_cons, List.not_mem_nil, or_false] at hc
  rcases hc with rfl | rfl | rfl | rfl | rfl | rfl | rfl | rfl | rfl | rfl | rfl | rfl | rfl | rfl | rfl
  · exact w_c0
  · exact w_c1
  · exact w_c2
  · exact w_c3
  · exact w_c4
  · exact w_c5
  · exact w_c6
  · exact w_c7
  · exact w_c8
  · exact w_c9
  · exact w_c10
  · exact w_c11
  · exact w_c12
  · exact w_c13
  · exact w_c14
set_option maxRecDepth 65536 in
theorem w_t1 : (words1.take 24).all (fun c => isCode c || c.before args0 about1) = true := by decide +kernel
set_option maxRecDepth 65536 in
theorem w_t2 : ((words1.drop 24).take 24).all (fun c => isCode c || c.before args0 about1) = true := by decide +kernel
set_option maxRecDepth 65536 in
theorem w_t3 : (((words1.drop 24).drop 24).take 24).all (fun c => isCode c || c.before args0 about1) = true := by decide +kernel
set_option maxRecDepth 65536 in
theorem w_t4 : (((words1.drop 24).drop 24).drop 24).all (fun c => isCode c || c.before args0 about1) = true := by decide +kernel
theorem w_tables : (allAtoms (Jvm.Cond.code x code maxLocals ret :: tables_1)).before args0 about1 = true := by
  rw [allAtoms_all]
  show words1.all (fun c => c.before args0 about1) = true
  refine all_split ?_ w_codes
  rw [← List.take_append_drop 24 words1, List.all_append, w_t1, ← List.take_append_drop 24 (words1.drop 24), List.all_append, w_t2, ← List.take_append_drop 24 ((words1.drop 24).drop 24), List.all_append, w_t3, w_t4]
  rfl
set_option maxRecDepth 65536 in
theorem w_rest : rest_1_c.before args0 about1 = true := by decide +kernel
set_option maxRecDepth 65536 in
theorem w_case : (Jvm.Cond.and given_1 narrow_1).before args0 about1 = true := by decide +kernel
set_option maxRecDepth 65536 in
theorem w_consts : constsHeld consts_1 about1 := Jvm.Lit.constsHeldB_iff.mp (by decide +kernel)
theorem w_applies : (headSpec (Jvm.Cond.code x code maxLocals ret :: tables_1) room_1).applies x e0.platform about1 = true :=
  (Spec.applies_iff w_frames).mpr ⟨w_running, w_runnable, w_alone, w_named, w_hears, w_ripe, w_room, w_tables⟩
theorem atStart : AtStart classFile x code maxLocals ret World_1 tables_1 room_1 Calls_1 rest_1 Pre_1 launch0 p0 e0 about1 theMethod args0 below0 :=
  ⟨lists_1, trivial, launch0.admits_env _ _ _, launch0.least_env, fairChoices_fair.cas, fairChoices_fair.clock, w_frames, w_args, w_heap, w_applies, ⟨w_consts, trivial⟩, w_rest, w_case⟩
end start1
theorem witness_1 : WitnessClaimed_1 := ⟨start1.p0, start1.e0, start1.about1, start1.theMethod, start1.args0, start1.below0, start1.atStart⟩
end Jvm.Pilot.@@N@@
