import JvmDerived
import JvmDerived.Pilot.@@N@@Statement
import JvmDerived.Pilot.@@N@@Code
set_option linter.unusedVariables false
set_option linter.unusedSimpArgs false
@@BLOCK:NumsL.lean.txt@@
namespace Jvm.OwnKit
open Sem ClassFile Op Lib Jvm.Stand Jvm.Free Jvm.LawKit Jvm.RoadKit
/-- from t the invocation runs to its end, and Post holds there -/
def Goes (p : Program) (e : Env) (below : List Frame) (Post : Outcome → State → Prop) (t : State) : Prop :=
  ∃ s₂ o, Steps p.tables e below t s₂ ∧ s₂.status = .running ∧ Ended s₂ below o ∧ Post o s₂
def i2c (x : Int32) : Int32 := x.toUInt32.toUInt16.toUInt32.toInt32
def i2b (x : Int32) : Int32 := x.toInt8.toInt32
section Goes
variable {p : Program} {e : Env} {below : List Frame} {Post : Outcome → State → Prop} {T T' t t' : State} {m : MethodId} {c : Code} {pc : Nat} {ls : Array Slot} {st rest : List Value}
theorem Goes.go (st : ∀ tg, Steps p.tables e below t' tg → Steps p.tables e below t tg) (h : Goes p e below Post t') : Goes p e below Post t := by
  obtain ⟨s₂, o, h1, h2⟩ := h
  exact ⟨s₂, o, st _ h1, h2⟩
theorem Goes.run (st : Steps p.tables e below t t') (h : Goes p e below Post t') : Goes p e below Post t := by
  obtain ⟨s₂, o, h1, h2⟩ := h
  exact ⟨s₂, o, st.trans h1, h2⟩
theorem Goes.cast {g g' : JFrame} (q : g = g') (h : Goes p e below Post (T.setTop g')) : Goes p e below Post (T.setTop g) := q ▸ h
theorem zeq {x : Int32} (h : x = 0) : ifCond.holds .eq x = true ∧ ifCond.holds .ne x = false := by subst h; exact ⟨rfl, rfl⟩
theorem zne {x : Int32} (h : ¬ x = 0) : ifCond.holds .eq x = false ∧ ifCond.holds .ne x = true := by
  have q : (x == 0) = false := by simp [h]
  exact ⟨q, by show (!(x == 0)) = true; rw [q]; rfl⟩
theorem zlt {x : Int32} (h : x < 0) : ifCond.holds .lt x = true ∧ ifCond.holds .ge x = false := ⟨decide_eq_true h, decide_eq_false (Int32.not_le.mpr h)⟩
theorem znl {x : Int32} (h : ¬ x < 0) : ifCond.holds .lt x = false ∧ ifCond.holds .ge x = true := ⟨decide_eq_false h, decide_eq_true (Int32.not_lt.mp h)⟩
theorem zgt {x : Int32} (h : 0 < x) : ifCond.holds .gt x = true ∧ ifCond.holds .le x = false := ⟨decide_eq_true h, decide_eq_false (Int32.not_le.mpr h)⟩
theorem zng {x : Int32} (h : ¬ 0 < x) : ifCond.holds .gt x = false ∧ ifCond.holds .le x = true := ⟨decide_eq_false h, decide_eq_true (Int32.not_lt.mp h)⟩
namespace G
theorem iload (h : At T m c below) (hx : p.tables.exec = Jvm.exec) (pc' : Nat) {k : Nat} {v : Int32} (hd : decode c.code pc = .ok (.iload k, 2)) (hl : ls[k]? = some (.val (.int v))) (hp : pc + 2 = pc')
    (K : Goes p e below Post (T.setTop (mkF m pc' ls (.int v :: st)))) : Goes p e below Post (T.setTop (mkF m pc ls st)) := by
  subst hp; exact Goes.go (fun _ k => XS.iload h hx rfl hd hl k) K
theorem iloadN (h : At T m c below) (hx : p.tables.exec = Jvm.exec) (pc' : Nat) {k : Fin 4} {v : Int32} (hd : decode c.code pc = .ok (.iload_n k, 1)) (hl : ls[k.val]? = some (.val (.int v))) (hp : pc + 1 = pc')
    (K : Goes p e below Post (T.setTop (mkF m pc' ls (.int v :: st)))) : Goes p e below Post (T.setTop (mkF m pc ls st)) := by
  subst hp; exact Goes.go (fun _ k => XS.iloadN h hx rfl hd hl k) K
theorem lload (h : At T m c below) (hx : p.tables.exec = Jvm.exec) (pc' : Nat) {k : Nat} {v : Int64} (hd : decode c.code pc = .ok (.lload k, 2)) (hl : ls[k]? = some (.val (.long v))) (hp : pc + 2 = pc')
    (K : Goes p e below Post (T.setTop (mkF m pc' ls (.long v :: st)))) : Goes p e below Post (T.setTop (mkF m pc ls st)) := by
  subst hp; exact Goes.go (fun _ k => XT.lload h hx rfl hd hl k) K
theorem lloadN (h : At T m c below) (hx : p.tables.exec = Jvm.exec) (pc' : Nat) {k : Fin 4} {v : Int64} (hd : decode c.code pc = .ok (.lload_n k, 1)) (hl : ls[k.val]? = some (.val (.long v))) (hp : pc + 1 = pc')
    (K : Goes p e below Post (T.setTop (mkF m pc' ls (.long v :: st)))) : Goes p e below Post (T.setTop (mkF m pc ls st)) := by
  subst hp; exact Goes.go (fun _ k => XT.lloadN h hx rfl hd hl k) K
theorem aload (h : At T m c below) (hx : p.tables.exec = Jvm.exec) (pc' : Nat) {k : Nat} {v : Value} (hd : decode c.code pc = .ok (.aload k, 2)) (hl : ls[k]? = some (.val v)) (hv : v.isRef = true) (hp : pc + 2 = pc')
    (K : Goes p e below Post (T.setTop (mkF m pc' ls (v :: st)))) : Goes p e below Post (T.setTop (mkF m pc ls st)) := by
  subst hp; exact Goes.go (fun _ k => XS.aload h hx rfl hd hl hv k) K
theorem aloadN (h : At T m c below) (hx : p.tables.exec = Jvm.exec) (pc' : Nat) {k : Fin 4} {v : Value} (hd : decode c.code pc = .ok (.aload_n k, 1)) (hl : ls[k.val]? = some (.val v)) (hv : v.isRef = true) (hp : pc + 1 = pc')
    (K : Goes p e below Post (T.setTop (mkF m pc' ls (v :: st)))) : Goes p e below Post (T.setTop (mkF m pc ls st)) := by
  subst hp; exact Goes.go (fun _ k => XS.aloadN h hx rfl hd hl hv k) K
theorem iconst (h : At T m c below) (hx : p.tables.exec = Jvm.exec) (pc' : Nat) (z : Int32) {i : Int} (hd : decode c.code pc = .ok (.iconst i, 1)) (hz : Int32.ofInt i = z) (hp : pc + 1 = pc')
    (K : Goes p e below Post (T.setTop (mkF m pc' ls (.int z :: st)))) : Goes p e below Post (T.setTop (mkF m pc ls st)) := by
  subst hp hz; exact Goes.go (fun _ k => XS.iconst h hx rfl hd k) K
theorem bipush (h : At T m c below) (hx : p.tables.exec = Jvm.exec) (pc' : Nat) (z : Int32) {i : Int} (hd : decode c.code pc = .ok (.bipush i, 2)) (hz : (Int8.ofInt i).toInt32 = z) (hp : pc + 2 = pc')
    (K : Goes p e below Post (T.setTop (mkF m pc' ls (.int z :: st)))) : Goes p e below Post (T.setTop (mkF m pc ls st)) := by
  subst hp hz; exact Goes.go (fun _ k => XS.bipush h hx rfl hd k) K
theorem sipush (h : At T m c below) (hx : p.tables.exec = Jvm.exec) (pc' : Nat) (z : Int32) {i : Int} (hd : decode c.code pc = .ok (.sipush i, 3)) (hz : (Int16.ofInt i).toInt32 = z) (hp : pc + 3 = pc')
    (K : Goes p e below Post (T.setTop (mkF m pc' ls (.int z :: st)))) : Goes p e below Post (T.setTop (mkF m pc ls st)) := by
  subst hp hz; exact Goes.go (fun _ k => XS.sipush h hx rfl hd k) K
theorem lconst (h : At T m c below) (hx : p.tables.exec = Jvm.exec) (pc' : Nat) (z : Int64) {i : Fin 2} (hd : decode c.code pc = .ok (.lconst i, 1)) (hz : Int64.ofNat i = z) (hp : pc + 1 = pc')
    (K : Goes p e below Post (T.setTop (mkF m pc' ls (.long z :: st)))) : Goes p e below Post (T.setTop (mkF m pc ls st)) := by
  subst hp hz; exact Goes.go (fun _ k => XT.lconst h hx rfl hd k) K
theorem aconstNull (h : At T m c below) (hx : p.tables.exec = Jvm.exec) (pc' : Nat)  (hd : decode c.code pc = .ok (.aconst_null, 1)) (hp : pc + 1 = pc')
    (K : Goes p e below Post (T.setTop (mkF m pc' ls (.null :: st)))) : Goes p e below Post (T.setTop (mkF m pc ls st)) := by
  subst hp; exact Goes.go (fun _ k => XS.aconstNull h hx rfl hd  k) K
theorem iadd (h : At T m c below) (hx : p.tables.exec = Jvm.exec) (pc' : Nat) {x y : Int32} (hd : decode c.code pc = .ok (.iadd, 1)) (hp : pc + 1 = pc')
    (K : Goes p e below Post (T.setTop (mkF m pc' ls (.int (x + y) :: st)))) : Goes p e below Post (T.setTop (mkF m pc ls (.int y :: .int x :: st))) := by
  subst hp; exact Goes.go (fun _ k => XS.iadd h hx rfl hd rfl k) K
theorem isub (h : At T m c below) (hx : p.tables.exec = Jvm.exec) (pc' : Nat) {x y : Int32} (hd : decode c.code pc = .ok (.isub, 1)) (hp : pc + 1 = pc')
    (K : Goes p e below Post (T.setTop (mkF m pc' ls (.int (x - y) :: st)))) : Goes p e below Post (T.setTop (mkF m pc ls (.int y :: .int x :: st))) := by
  subst hp; exact Goes.go (fun _ k => XS.isub h hx rfl hd rfl k) K
theorem imul (h : At T m c below) (hx : p.tables.exec = Jvm.exec) (pc' : Nat) {x y : Int32} (hd : decode c.code pc = .ok (.imul, 1)) (hp : pc + 1 = pc')
    (K : Goes p e below Post (T.setTop (mkF m pc' ls (.int (x * y) :: st)))) : Goes p e below Post (T.setTop (mkF m pc ls (.int y :: .int x :: st))) := by
  subst hp; exact Goes.go (fun _ k => XS.imul h hx rfl hd rfl k) K
theorem iand (h : At T m c below) (hx : p.tables.exec = Jvm.exec) (pc' : Nat) {x y : Int32} (hd : decode c.code pc = .ok (.iand, 1)) (hp : pc + 1 = pc')
    (K : Goes p e below Post (T.setTop (mkF m pc' ls (.int (x &&& y) :: st)))) : Goes p e below Post (T.setTop (mkF m pc ls (.int y :: .int x :: st))) := by
  subst hp; exact Goes.go (fun _ k => XS.iand h hx rfl hd rfl k) K
theorem ior (h : At T m c below) (hx : p.tables.exec = Jvm.exec) (pc' : Nat) {x y : Int32} (hd : decode c.code pc = .ok (.ior, 1)) (hp : pc + 1 = pc')
    (K : Goes p e below Post (T.setTop (mkF m pc' ls (.int (x ||| y) :: st)))) : Goes p e below Post (T.setTop (mkF m pc ls (.int y :: .int x :: st))) := by
  subst hp; exact Goes.go (fun _ k => XT.ior h hx rfl hd rfl k) K
theorem ixor (h : At T m c below) (hx : p.tables.exec = Jvm.exec) (pc' : Nat) {x y : Int32} (hd : decode c.code pc = .ok (.ixor, 1)) (hp : pc + 1 = pc')
    (K : Goes p e below Post (T.setTop (mkF m pc' ls (.int (x ^^^ y) :: st)))) : Goes p e below Post (T.setTop (mkF m pc ls (.int y :: .int x :: st))) := by
  subst hp; exact Goes.go (fun _ k => XT.ixor h hx rfl hd rfl k) K
theorem ishl (h : At T m c below) (hx : p.tables.exec = Jvm.exec) (pc' : Nat) {x y : Int32} (hd : decode c.code pc = .ok (.ishl, 1)) (hp : pc + 1 = pc')
    (K : Goes p e below Post (T.setTop (mkF m pc' ls (.int (x <<< (y &&& 31)) :: st)))) : Goes p e below Post (T.setTop (mkF m pc ls (.int y :: .int x :: st))) := by
  subst hp; exact Goes.go (fun _ k => XT.ishl h hx rfl hd rfl k) K
theorem ishr (h : At T m c below) (hx : p.tables.exec = Jvm.exec) (pc' : Nat) {x y : Int32} (hd : decode c.code pc = .ok (.ishr, 1)) (hp : pc + 1 = pc')
    (K : Goes p e below Post (T.setTop (mkF m pc' ls (.int (x >>> (y &&& 31)) :: st)))) : Goes p e below Post (T.setTop (mkF m pc ls (.int y :: .int x :: st))) := by
  subst hp; exact Goes.go (fun _ k => XT.ishr h hx rfl hd rfl k) K
theorem iushr (h : At T m c below) (hx : p.tables.exec = Jvm.exec) (pc' : Nat) {x y : Int32} (hd : decode c.code pc = .ok (.iushr, 1)) (hp : pc + 1 = pc')
    (K : Goes p e below Post (T.setTop (mkF m pc' ls (.int (XT.ushr x y) :: st)))) : Goes p e below Post (T.setTop (mkF m pc ls (.int y :: .int x :: st))) := by
  subst hp; exact Goes.go (fun _ k => XT.iushr h hx rfl hd rfl k) K
theorem ladd (h : At T m c below) (hx : p.tables.exec = Jvm.exec) (pc' : Nat) {x y : Int64} (hd : decode c.code pc = .ok (.ladd, 1)) (hp : pc + 1 = pc')
    (K : Goes p e below Post (T.setTop (mkF m pc' ls (.long (x + y) :: st)))) : Goes p e below Post (T.setTop (mkF m pc ls (.long y :: .long x :: st))) := by
  subst hp; exact Goes.go (fun _ k => XT.ladd h hx rfl hd rfl k) K
theorem lsub (h : At T m c below) (hx : p.tables.exec = Jvm.exec) (pc' : Nat) {x y : Int64} (hd : decode c.code pc = .ok (.lsub, 1)) (hp : pc + 1 = pc')
    (K : Goes p e below Post (T.setTop (mkF m pc' ls (.long (x - y) :: st)))) : Goes p e below Post (T.setTop (mkF m pc ls (.long y :: .long x :: st))) := by
  subst hp; exact Goes.go (fun _ k => XT.lsub h hx rfl hd rfl k) K
theorem lmul (h : At T m c below) (hx : p.tables.exec = Jvm.exec) (pc' : Nat) {x y : Int64} (hd : decode c.code pc = .ok (.lmul, 1)) (hp : pc + 1 = pc')
    (K : Goes p e below Post (T.setTop (mkF m pc' ls (.long (x * y) :: st)))) : Goes p e below Post (T.setTop (mkF m pc ls (.long y :: .long x :: st))) := by
  subst hp; exact Goes.go (fun _ k => XT.lmul h hx rfl hd rfl k) K
theorem land (h : At T m c below) (hx : p.tables.exec = Jvm.exec) (pc' : Nat) {x y : Int64} (hd : decode c.code pc = .ok (.land, 1)) (hp : pc + 1 = pc')
    (K : Goes p e below Post (T.setTop (mkF m pc' ls (.long (x &&& y) :: st)))) : Goes p e below Post (T.setTop (mkF m pc ls (.long y :: .long x :: st))) := by
  subst hp; exact Goes.go (fun _ k => XT.land h hx rfl hd rfl k) K
theorem lor (h : At T m c below) (hx : p.tables.exec = Jvm.exec) (pc' : Nat) {x y : Int64} (hd : decode c.code pc = .ok (.lor, 1)) (hp : pc + 1 = pc')
    (K : Goes p e below Post (T.setTop (mkF m pc' ls (.long (x ||| y) :: st)))) : Goes p e below Post (T.setTop (mkF m pc ls (.long y :: .long x :: st))) := by
  subst hp; exact Goes.go (fun _ k => XT.lor h hx rfl hd rfl k) K
theorem lxor (h : At T m c below) (hx : p.tables.exec = Jvm.exec) (pc' : Nat) {x y : Int64} (hd : decode c.code pc = .ok (.lxor, 1)) (hp : pc + 1 = pc')
    (K : Goes p e below Post (T.setTop (mkF m pc' ls (.long (x ^^^ y) :: st)))) : Goes p e below Post (T.setTop (mkF m pc ls (.long y :: .long x :: st))) := by
  subst hp; exact Goes.go (fun _ k => XT.lxor h hx rfl hd rfl k) K
theorem lshl (h : At T m c below) (hx : p.tables.exec = Jvm.exec) (pc' : Nat) {x : Int64} {y : Int32} (hd : decode c.code pc = .ok (.lshl, 1)) (hp : pc + 1 = pc')
    (K : Goes p e below Post (T.setTop (mkF m pc' ls (.long (x <<< (y.toInt64 &&& 63)) :: st)))) : Goes p e below Post (T.setTop (mkF m pc ls (.int y :: .long x :: st))) := by
  subst hp; exact Goes.go (fun _ k => XT.lshl h hx rfl hd rfl k) K
theorem lshr (h : At T m c below) (hx : p.tables.exec = Jvm.exec) (pc' : Nat) {x : Int64} {y : Int32} (hd : decode c.code pc = .ok (.lshr, 1)) (hp : pc + 1 = pc')
    (K : Goes p e below Post (T.setTop (mkF m pc' ls (.long (x >>> (y.toInt64 &&& 63)) :: st)))) : Goes p e below Post (T.setTop (mkF m pc ls (.int y :: .long x :: st))) := by
  subst hp; exact Goes.go (fun _ k => XT.lshr h hx rfl hd rfl k) K
theorem lushr (h : At T m c below) (hx : p.tables.exec = Jvm.exec) (pc' : Nat) {x : Int64} {y : Int32} (hd : decode c.code pc = .ok (.lushr, 1)) (hp : pc + 1 = pc')
    (K : Goes p e below Post (T.setTop (mkF m pc' ls (.long (XT.ushrL x y) :: st)))) : Goes p e below Post (T.setTop (mkF m pc ls (.int y :: .long x :: st))) := by
  subst hp; exact Goes.go (fun _ k => XT.lushr h hx rfl hd rfl k) K
theorem lcmp (h : At T m c below) (hx : p.tables.exec = Jvm.exec) (pc' : Nat) {x y : Int64} (hd : decode c.code pc = .ok (.lcmp, 1)) (hp : pc + 1 = pc')
    (K : Goes p e below Post (T.setTop (mkF m pc' ls (.int (XT.cmpL x y) :: st)))) : Goes p e below Post (T.setTop (mkF m pc ls (.long y :: .long x :: st))) := by
  subst hp; exact Goes.go (fun _ k => XT.lcmp h hx rfl hd rfl k) K
theorem idiv (h : At T m c below) (hx : p.tables.exec = Jvm.exec) (pc' : Nat) {x y : Int32} (hd : decode c.code pc = .ok (.idiv, 1)) (hy : y ≠ 0) (hp : pc + 1 = pc')
    (K : Goes p e below Post (T.setTop (mkF m pc' ls (.int (x / y) :: st)))) : Goes p e below Post (T.setTop (mkF m pc ls (.int y :: .int x :: st))) := by
  subst hp; exact Goes.go (fun _ k => XS.idiv h hx rfl hd rfl hy k) K
theorem irem (h : At T m c below) (hx : p.tables.exec = Jvm.exec) (pc' : Nat) {x y : Int32} (hd : decode c.code pc = .ok (.irem, 1)) (hy : y ≠ 0) (hp : pc + 1 = pc')
    (K : Goes p e below Post (T.setTop (mkF m pc' ls (.int (x % y) :: st)))) : Goes p e below Post (T.setTop (mkF m pc ls (.int y :: .int x :: st))) := by
  subst hp; exact Goes.go (fun _ k => XS.irem h hx rfl hd rfl hy (by rw [irem_eq_mod]; exact k)) K
theorem ineg (h : At T m c below) (hx : p.tables.exec = Jvm.exec) (pc' : Nat) {x : Int32} (hd : decode c.code pc = .ok (.ineg, 1)) (hp : pc + 1 = pc')
    (K : Goes p e below Post (T.setTop (mkF m pc' ls (.int (-x) :: st)))) : Goes p e below Post (T.setTop (mkF m pc ls (.int x :: st))) := by
  subst hp; exact Goes.go (fun _ k => XS.ineg h hx rfl hd rfl k) K
theorem lneg (h : At T m c below) (hx : p.tables.exec = Jvm.exec) (pc' : Nat) {x : Int64} (hd : decode c.code pc = .ok (.lneg, 1)) (hp : pc + 1 = pc')
    (K : Goes p e below Post (T.setTop (mkF m pc' ls (.long (-x) :: st)))) : Goes p e below Post (T.setTop (mkF m pc ls (.long x :: st))) := by
  subst hp; exact Goes.go (fun _ k => XT.lneg h hx rfl hd rfl k) K
theorem i2l (h : At T m c below) (hx : p.tables.exec = Jvm.exec) (pc' : Nat) {x : Int32} (hd : decode c.code pc = .ok (.i2l, 1)) (hp : pc + 1 = pc')
    (K : Goes p e below Post (T.setTop (mkF m pc' ls (.long x.toInt64 :: st)))) : Goes p e below Post (T.setTop (mkF m pc ls (.int x :: st))) := by
  subst hp; exact Goes.go (fun _ k => XT.i2l h hx rfl hd rfl k) K
theorem l2i (h : At T m c below) (hx : p.tables.exec = Jvm.exec) (pc' : Nat) {x : Int64} (hd : decode c.code pc = .ok (.l2i, 1)) (hp : pc + 1 = pc')
    (K : Goes p e below Post (T.setTop (mkF m pc' ls (.int x.toInt32 :: st)))) : Goes p e below Post (T.setTop (mkF m pc ls (.long x :: st))) := by
  subst hp; exact Goes.go (fun _ k => XT.l2i h hx rfl hd rfl k) K
theorem i2b (h : At T m c below) (hx : p.tables.exec = Jvm.exec) (pc' : Nat) {x : Int32} (hd : decode c.code pc = .ok (.i2b, 1)) (hp : pc + 1 = pc')
    (K : Goes p e below Post (T.setTop (mkF m pc' ls (.int (OwnKit.i2b x) :: st)))) : Goes p e below Post (T.setTop (mkF m pc ls (.int x :: st))) := by
  subst hp; exact Goes.go (fun _ k => XT.i2b h hx rfl hd rfl k) K
theorem i2c (h : At T m c below) (hx : p.tables.exec = Jvm.exec) (pc' : Nat) {x : Int32} (hd : decode c.code pc = .ok (.i2c, 1)) (hp : pc + 1 = pc')
    (K : Goes p e below Post (T.setTop (mkF m pc' ls (.int (OwnKit.i2c x) :: st)))) : Goes p e below Post (T.setTop (mkF m pc ls (.int x :: st))) := by
  subst hp; exact Goes.go (fun _ k => XT.i2c h hx rfl hd rfl k) K
theorem dup (h : At T m c below) (hx : p.tables.exec = Jvm.exec) (pc' : Nat) {x : Value} (hd : decode c.code pc = .ok (.dup, 1)) (hc : x.category = 1) (hp : pc + 1 = pc')
    (K : Goes p e below Post (T.setTop (mkF m pc' ls (x :: x :: st)))) : Goes p e below Post (T.setTop (mkF m pc ls (x :: st))) := by
  subst hp; exact Goes.go (fun _ k => XS.dup h hx rfl hd rfl hc k) K
theorem pop (h : At T m c below) (hx : p.tables.exec = Jvm.exec) (pc' : Nat) {x : Value} (hd : decode c.code pc = .ok (.pop, 1)) (hc : x.category = 1) (hp : pc + 1 = pc')
    (K : Goes p e below Post (T.setTop (mkF m pc' ls st))) : Goes p e below Post (T.setTop (mkF m pc ls (x :: st))) := by
  subst hp; exact Goes.go (fun _ k => XT.pop h hx rfl hd rfl hc k) K
theorem dupX1 (h : At T m c below) (hx : p.tables.exec = Jvm.exec) (pc' : Nat) {x y : Value} (hd : decode c.code pc = .ok (.dup_x1, 1)) (hc : x.category = 1) (hc' : y.category = 1) (hp : pc + 1 = pc')
    (K : Goes p e below Post (T.setTop (mkF m pc' ls (x :: y :: x :: st)))) : Goes p e below Post (T.setTop (mkF m pc ls (x :: y :: st))) := by
  subst hp; exact Goes.go (fun _ k => XT.dupX1 h hx rfl hd rfl hc hc' k) K
theorem dup2 (h : At T m c below) (hx : p.tables.exec = Jvm.exec) (pc' : Nat) {x y : Value} (hd : decode c.code pc = .ok (.dup2, 1)) (hc : x.category = 1) (hc' : y.category = 1) (hp : pc + 1 = pc')
    (K : Goes p e below Post (T.setTop (mkF m pc' ls (x :: y :: x :: y :: st)))) : Goes p e below Post (T.setTop (mkF m pc ls (x :: y :: st))) := by
  subst hp; exact Goes.go (fun _ k => XT.dup2 h hx rfl hd rfl hc hc' k) K
theorem iaddF (h : At T m c below) (hx : p.tables.exec = Jvm.exec) (pc' : Nat) (z : Int32) {x y : Int32} (hd : decode c.code pc = .ok (.iadd, 1)) (hz : x + y = z) (hp : pc + 1 = pc')
    (K : Goes p e below Post (T.setTop (mkF m pc' ls (.int z :: st)))) : Goes p e below Post (T.setTop (mkF m pc ls (.int y :: .int x :: st))) := by
  subst hz; exact iadd h hx pc' hd hp K
theorem isubF (h : At T m c below) (hx : p.tables.exec = Jvm.exec) (pc' : Nat) (z : Int32) {x y : Int32} (hd : decode c.code pc = .ok (.isub, 1)) (hz : x - y = z) (hp : pc + 1 = pc')
    (K : Goes p e below Post (T.setTop (mkF m pc' ls (.int z :: st)))) : Goes p e below Post (T.setTop (mkF m pc ls (.int y :: .int x :: st))) := by
  subst hz; exact isub h hx pc' hd hp K
theorem imulF (h : At T m c below) (hx : p.tables.exec = Jvm.exec) (pc' : Nat) (z : Int32) {x y : Int32} (hd : decode c.code pc = .ok (.imul, 1)) (hz : x * y = z) (hp : pc + 1 = pc')
    (K : Goes p e below Post (T.setTop (mkF m pc' ls (.int z :: st)))) : Goes p e below Post (T.setTop (mkF m pc ls (.int y :: .int x :: st))) := by
  subst hz; exact imul h hx pc' hd hp K
theorem iandF (h : At T m c below) (hx : p.tables.exec = Jvm.exec) (pc' : Nat) (z : Int32) {x y : Int32} (hd : decode c.code pc = .ok (.iand, 1)) (hz : x &&& y = z) (hp : pc + 1 = pc')
    (K : Goes p e below Post (T.setTop (mkF m pc' ls (.int z :: st)))) : Goes p e below Post (T.setTop (mkF m pc ls (.int y :: .int x :: st))) := by
  subst hz; exact iand h hx pc' hd hp K
theorem iorF (h : At T m c below) (hx : p.tables.exec = Jvm.exec) (pc' : Nat) (z : Int32) {x y : Int32} (hd : decode c.code pc = .ok (.ior, 1)) (hz : x ||| y = z) (hp : pc + 1 = pc')
    (K : Goes p e below Post (T.setTop (mkF m pc' ls (.int z :: st)))) : Goes p e below Post (T.setTop (mkF m pc ls (.int y :: .int x :: st))) := by
  subst hz; exact ior h hx pc' hd hp K
theorem ixorF (h : At T m c below) (hx : p.tables.exec = Jvm.exec) (pc' : Nat) (z : Int32) {x y : Int32} (hd : decode c.code pc = .ok (.ixor, 1)) (hz : x ^^^ y = z) (hp : pc + 1 = pc')
    (K : Goes p e below Post (T.setTop (mkF m pc' ls (.int z :: st)))) : Goes p e below Post (T.setTop (mkF m pc ls (.int y :: .int x :: st))) := by
  subst hz; exact ixor h hx pc' hd hp K
theorem ishlF (h : At T m c below) (hx : p.tables.exec = Jvm.exec) (pc' : Nat) (z : Int32) {x y : Int32} (hd : decode c.code pc = .ok (.ishl, 1)) (hz : x <<< (y &&& 31) = z) (hp : pc + 1 = pc')
    (K : Goes p e below Post (T.setTop (mkF m pc' ls (.int z :: st)))) : Goes p e below Post (T.setTop (mkF m pc ls (.int y :: .int x :: st))) := by
  subst hz; exact ishl h hx pc' hd hp K
theorem ishrF (h : At T m c below) (hx : p.tables.exec = Jvm.exec) (pc' : Nat) (z : Int32) {x y : Int32} (hd : decode c.code pc = .ok (.ishr, 1)) (hz : x >>> (y &&& 31) = z) (hp : pc + 1 = pc')
    (K : Goes p e below Post (T.setTop (mkF m pc' ls (.int z :: st)))) : Goes p e below Post (T.setTop (mkF m pc ls (.int y :: .int x :: st))) := by
  subst hz; exact ishr h hx pc' hd hp K
theorem iushrF (h : At T m c below) (hx : p.tables.exec = Jvm.exec) (pc' : Nat) (z : Int32) {x y : Int32} (hd : decode c.code pc = .ok (.iushr, 1)) (hz : XT.ushr x y = z) (hp : pc + 1 = pc')
    (K : Goes p e below Post (T.setTop (mkF m pc' ls (.int z :: st)))) : Goes p e below Post (T.setTop (mkF m pc ls (.int y :: .int x :: st))) := by
  subst hz; exact iushr h hx pc' hd hp K
theorem inegF (h : At T m c below) (hx : p.tables.exec = Jvm.exec) (pc' : Nat) (z : Int32) {x : Int32} (hd : decode c.code pc = .ok (.ineg, 1)) (hz : -x = z) (hp : pc + 1 = pc')
    (K : Goes p e below Post (T.setTop (mkF m pc' ls (.int z :: st)))) : Goes p e below Post (T.setTop (mkF m pc ls (.int x :: st))) := by
  subst hz; exact ineg h hx pc' hd hp K
theorem istore (h : At T m c below) (hx : p.tables.exec = Jvm.exec) (pc' : Nat) (l' : Int32 → Array Slot) {k : Nat} {x : Int32} (hd : decode c.code pc = .ok (.istore k, 2)) (hl : ∀ v, storeLocals ls k (.int v) = some (l' v)) (hp : pc + 2 = pc')
    (K : ∀ v, v = x → Goes p e below Post (T.setTop (mkF m pc' (l' v) st))) : Goes p e below Post (T.setTop (mkF m pc ls (.int x :: st))) := by
  subst hp; exact Goes.go (fun _ k => XS.istore h hx rfl hd rfl (hl x) k) (K x rfl)
theorem istoreN (h : At T m c below) (hx : p.tables.exec = Jvm.exec) (pc' : Nat) (l' : Int32 → Array Slot) {k : Fin 4} {x : Int32} (hd : decode c.code pc = .ok (.istore_n k, 1)) (hl : ∀ v, storeLocals ls k.val (.int v) = some (l' v)) (hp : pc + 1 = pc')
    (K : ∀ v, v = x → Goes p e below Post (T.setTop (mkF m pc' (l' v) st))) : Goes p e below Post (T.setTop (mkF m pc ls (.int x :: st))) := by
  subst hp; exact Goes.go (fun _ k => XS.istoreN h hx rfl hd rfl (hl x) k) (K x rfl)
theorem lstore (h : At T m c below) (hx : p.tables.exec = Jvm.exec) (pc' : Nat) (l' : Int64 → Array Slot) {k : Nat} {x : Int64} (hd : decode c.code pc = .ok (.lstore k, 2)) (hl : ∀ v, storeLocals ls k (.long v) = some (l' v)) (hp : pc + 2 = pc')
    (K : ∀ v, v = x → Goes p e below Post (T.setTop (mkF m pc' (l' v) st))) : Goes p e below Post (T.setTop (mkF m pc ls (.long x :: st))) := by
  subst hp; exact Goes.go (fun _ k => XT.lstore h hx rfl hd rfl (hl x) k) (K x rfl)
theorem lstoreN (h : At T m c below) (hx : p.tables.exec = Jvm.exec) (pc' : Nat) (l' : Int64 → Array Slot) {k : Fin 4} {x : Int64} (hd : decode c.code pc = .ok (.lstore_n k, 1)) (hl : ∀ v, storeLocals ls k.val (.long v) = some (l' v)) (hp : pc + 1 = pc')
    (K : ∀ v, v = x → Goes p e below Post (T.setTop (mkF m pc' (l' v) st))) : Goes p e below Post (T.setTop (mkF m pc ls (.long x :: st))) := by
  subst hp; exact Goes.go (fun _ k => XT.lstoreN h hx rfl hd rfl (hl x) k) (K x rfl)
theorem istoreX (h : At T m c below) (hx : p.tables.exec = Jvm.exec) (pc' : Nat) (l' : Array Slot) {k : Nat} {x : Int32} (hd : decode c.code pc = .ok (.istore k, 2)) (hl : storeLocals ls k (.int x) = some l') (hp : pc + 2 = pc')
    (K : Goes p e below Post (T.setTop (mkF m pc' l' st))) : Goes p e below Post (T.setTop (mkF m pc ls (.int x :: st))) := by
  subst hp; exact Goes.go (fun _ k => XS.istore h hx rfl hd rfl hl k) K
theorem istoreNX (h : At T m c below) (hx : p.tables.exec = Jvm.exec) (pc' : Nat) (l' : Array Slot) {k : Fin 4} {x : Int32} (hd : decode c.code pc = .ok (.istore_n k, 1)) (hl : storeLocals ls k.val (.int x) = some l') (hp : pc + 1 = pc')
    (K : Goes p e below Post (T.setTop (mkF m pc' l' st))) : Goes p e below Post (T.setTop (mkF m pc ls (.int x :: st))) := by
  subst hp; exact Goes.go (fun _ k => XS.istoreN h hx rfl hd rfl hl k) K
theorem lstoreX (h : At T m c below) (hx : p.tables.exec = Jvm.exec) (pc' : Nat) (l' : Array Slot) {k : Nat} {x : Int64} (hd : decode c.code pc = .ok (.lstore k, 2)) (hl : storeLocals ls k (.long x) = some l') (hp : pc + 2 = pc')
    (K : Goes p e below Post (T.setTop (mkF m pc' l' st))) : Goes p e below Post (T.setTop (mkF m pc ls (.long x :: st))) := by
  subst hp; exact Goes.go (fun _ k => XT.lstore h hx rfl hd rfl hl k) K
theorem lstoreNX (h : At T m c below) (hx : p.tables.exec = Jvm.exec) (pc' : Nat) (l' : Array Slot) {k : Fin 4} {x : Int64} (hd : decode c.code pc = .ok (.lstore_n k, 1)) (hl : storeLocals ls k.val (.long x) = some l') (hp : pc + 1 = pc')
    (K : Goes p e below Post (T.setTop (mkF m pc' l' st))) : Goes p e below Post (T.setTop (mkF m pc ls (.long x :: st))) := by
  subst hp; exact Goes.go (fun _ k => XT.lstoreN h hx rfl hd rfl hl k) K
theorem iincX (h : At T m c below) (hx : p.tables.exec = Jvm.exec) (pc' : Nat) (l' : Array Slot) {k : Nat} {cst : Int} {x : Int32} (hd : decode c.code pc = .ok (.iinc k cst, 3)) (hg : ls[k]? = some (.val (.int x))) (z : Int32) (hz : Int32.ofInt cst = z) (hl : storeLocals ls k (.int (x + z)) = some l') (hp : pc + 3 = pc')
    (K : Goes p e below Post (T.setTop (mkF m pc' l' st))) : Goes p e below Post (T.setTop (mkF m pc ls st)) := by
  subst hp hz; exact Goes.go (fun _ k => XS.iinc h hx rfl hd hg hl k) K
theorem astore (h : At T m c below) (hx : p.tables.exec = Jvm.exec) (pc' : Nat) (l' : Array Slot) {k : Nat} {x : Value} (hd : decode c.code pc = .ok (.astore k, 2)) (hv : x.isRef = true) (hl : storeLocals ls k x = some l') (hp : pc + 2 = pc')
    (K : Goes p e below Post (T.setTop (mkF m pc' l' st))) : Goes p e below Post (T.setTop (mkF m pc ls (x :: st))) := by
  subst hp; exact Goes.go (fun _ k => XS.astore h hx rfl hd rfl hv hl k) K
theorem astoreN (h : At T m c below) (hx : p.tables.exec = Jvm.exec) (pc' : Nat) (l' : Array Slot) {k : Fin 4} {x : Value} (hd : decode c.code pc = .ok (.astore_n k, 1)) (hv : x.isRef = true) (hl : storeLocals ls k.val x = some l') (hp : pc + 1 = pc')
    (K : Goes p e below Post (T.setTop (mkF m pc' l' st))) : Goes p e below Post (T.setTop (mkF m pc ls (x :: st))) := by
  subst hp; exact Goes.go (fun _ k => XS.astoreN h hx rfl hd rfl hv hl k) K
theorem iinc (h : At T m c below) (hx : p.tables.exec = Jvm.exec) (pc' : Nat) (l' : Int32 → Array Slot) {k : Nat} {cst : Int} {x : Int32} (hd : decode c.code pc = .ok (.iinc k cst, 3)) (hg : ls[k]? = some (.val (.int x))) (z : Int32) (hz : Int32.ofInt cst = z) (hl : ∀ v, storeLocals ls k (.int v) = some (l' v)) (hp : pc + 3 = pc')
    (K : ∀ v, v = x + z → Goes p e below Post (T.setTop (mkF m pc' (l' v) st))) : Goes p e below Post (T.setTop (mkF m pc ls st)) := by
  subst hp hz; exact Goes.go (fun _ k => XS.iinc h hx rfl hd hg (hl _) k) (K _ rfl)
theorem goto (h : At T m c below) (hx : p.tables.exec = Jvm.exec) (pc' : Nat) {o : Int} (hd : decode c.code pc = .ok (.goto o, 3)) (ho : 0 ≤ (pc : Int) + o) (hp : ((pc : Int) + o).toNat = pc')
    (K : Goes p e below Post (T.setTop (mkF m pc' ls st))) : Goes p e below Post (T.setTop (mkF m pc ls st)) := Goes.go (fun _ k => XS.goto h hx rfl (pc0 := pc) rfl hd ho hp k) K
theorem ifY (h : At T m c below) (hx : p.tables.exec = Jvm.exec) (pc' : Nat) {cd : ClassFile.Cond} {x : Int32} {o : Int} (hd : decode c.code pc = .ok (.ifCond cd o, 3)) (hc : ifCond.holds cd x = true) (ho : 0 ≤ (pc : Int) + o) (hp : ((pc : Int) + o).toNat = pc')
    (K : Goes p e below Post (T.setTop (mkF m pc' ls st))) : Goes p e below Post (T.setTop (mkF m pc ls (.int x :: st))) := Goes.go (fun _ k => XS.ifYes h hx rfl (pc0 := pc) rfl hd rfl hc ho hp k) K
theorem ifN (h : At T m c below) (hx : p.tables.exec = Jvm.exec) (pc' : Nat) {cd : ClassFile.Cond} {x : Int32} {o : Int} (hd : decode c.code pc = .ok (.ifCond cd o, 3)) (hc : ifCond.holds cd x = false) (hp : pc + 3 = pc')
    (K : Goes p e below Post (T.setTop (mkF m pc' ls st))) : Goes p e below Post (T.setTop (mkF m pc ls (.int x :: st))) := by
  subst hp; exact Goes.go (fun _ k => XS.ifNo h hx rfl hd rfl hc k) K
theorem icmpY (h : At T m c below) (hx : p.tables.exec = Jvm.exec) (pc' : Nat) {cd : ClassFile.Cond} {x y : Int32} {o : Int} (hd : decode c.code pc = .ok (.if_icmp cd o, 3)) (hc : if_icmp.holds cd x y = true) (ho : 0 ≤ (pc : Int) + o) (hp : ((pc : Int) + o).toNat = pc')
    (K : Goes p e below Post (T.setTop (mkF m pc' ls st))) : Goes p e below Post (T.setTop (mkF m pc ls (.int y :: .int x :: st))) := Goes.go (fun _ k => XS.icmpYes h hx rfl (pc0 := pc) rfl hd rfl hc ho hp k) K
theorem icmpN (h : At T m c below) (hx : p.tables.exec = Jvm.exec) (pc' : Nat) {cd : ClassFile.Cond} {x y : Int32} {o : Int} (hd : decode c.code pc = .ok (.if_icmp cd o, 3)) (hc : if_icmp.holds cd x y = false) (hp : pc + 3 = pc')
    (K : Goes p e below Post (T.setTop (mkF m pc' ls st))) : Goes p e below Post (T.setTop (mkF m pc ls (.int y :: .int x :: st))) := by
  subst hp; exact Goes.go (fun _ k => XS.icmpNo h hx rfl hd rfl hc k) K
theorem ifnullY (h : At T m c below) (hx : p.tables.exec = Jvm.exec) (pc' : Nat) {o : Int} (hd : decode c.code pc = .ok (.ifnull o, 3)) (ho : 0 ≤ (pc : Int) + o) (hp : ((pc : Int) + o).toNat = pc')
    (K : Goes p e below Post (T.setTop (mkF m pc' ls st))) : Goes p e below Post (T.setTop (mkF m pc ls (.null :: st))) := Goes.go (fun _ k => XS.ifnullYes h hx rfl (pc0 := pc) rfl hd rfl ho hp k) K
theorem ifnullN (h : At T m c below) (hx : p.tables.exec = Jvm.exec) (pc' : Nat) {b : Addr} {o : Int} (hd : decode c.code pc = .ok (.ifnull o, 3)) (hp : pc + 3 = pc')
    (K : Goes p e below Post (T.setTop (mkF m pc' ls st))) : Goes p e below Post (T.setTop (mkF m pc ls (.ref b :: st))) := by
  subst hp; exact Goes.go (fun _ k => XS.ifnullNo h hx rfl hd rfl k) K
theorem ifnonnullY (h : At T m c below) (hx : p.tables.exec = Jvm.exec) (pc' : Nat) {b : Addr} {o : Int} (hd : decode c.code pc = .ok (.ifnonnull o, 3)) (ho : 0 ≤ (pc : Int) + o) (hp : ((pc : Int) + o).toNat = pc')
    (K : Goes p e below Post (T.setTop (mkF m pc' ls st))) : Goes p e below Post (T.setTop (mkF m pc ls (.ref b :: st))) := Goes.go (fun _ k => XT.ifnonnullYes h hx rfl (pc0 := pc) rfl hd rfl ho hp k) K
theorem ifnonnullN (h : At T m c below) (hx : p.tables.exec = Jvm.exec) (pc' : Nat) {o : Int} (hd : decode c.code pc = .ok (.ifnonnull o, 3)) (hp : pc + 3 = pc')
    (K : Goes p e below Post (T.setTop (mkF m pc' ls st))) : Goes p e below Post (T.setTop (mkF m pc ls (.null :: st))) := by
  subst hp; exact Goes.go (fun _ k => XT.ifnonnullNo h hx rfl hd rfl k) K
theorem acmpY (h : At T m c below) (hx : p.tables.exec = Jvm.exec) (pc' : Nat) {cd : ClassFile.ACond} {x y : Value} {o : Int} (hd : decode c.code pc = .ok (.if_acmp cd o, 3)) (h1 : x.isRef = true) (h2 : y.isRef = true) (hc : XT.acmp cd x y = true) (ho : 0 ≤ (pc : Int) + o) (hp : ((pc : Int) + o).toNat = pc')
    (K : Goes p e below Post (T.setTop (mkF m pc' ls st))) : Goes p e below Post (T.setTop (mkF m pc ls (y :: x :: st))) := Goes.go (fun _ k => XT.acmpYes h hx rfl (pc0 := pc) rfl hd rfl h1 h2 hc ho hp k) K
theorem acmpN (h : At T m c below) (hx : p.tables.exec = Jvm.exec) (pc' : Nat) {cd : ClassFile.ACond} {x y : Value} {o : Int} (hd : decode c.code pc = .ok (.if_acmp cd o, 3)) (h1 : x.isRef = true) (h2 : y.isRef = true) (hc : XT.acmp cd x y = false) (hp : pc + 3 = pc')
    (K : Goes p e below Post (T.setTop (mkF m pc' ls st))) : Goes p e below Post (T.setTop (mkF m pc ls (y :: x :: st))) := by
  subst hp; exact Goes.go (fun _ k => XT.acmpNo h hx rfl hd rfl h1 h2 hc k) K
theorem ifnullV (h : At T m c below) (hx : p.tables.exec = Jvm.exec) (pc' pn : Nat) {v : Value} (hv : v.isRef = true) {o : Int} (hd : decode c.code pc = .ok (.ifnull o, 3)) (ho : 0 ≤ (pc : Int) + o) (hp : ((pc : Int) + o).toNat = pc') (hq : pc + 3 = pn)
    (KY : v = .null → Goes p e below Post (T.setTop (mkF m pc' ls st))) (KN : ¬ v = .null → Goes p e below Post (T.setTop (mkF m pn ls st))) : Goes p e below Post (T.setTop (mkF m pc ls (v :: st))) := by
  subst hq
  rcases ref_cases hv with hv0 | ⟨b, hv0⟩
  · subst hv0; exact Goes.go (fun _ k => XS.ifnullYes h hx rfl (pc0 := pc) rfl hd rfl ho hp k) (KY rfl)
  · subst hv0; exact Goes.go (fun _ k => XS.ifnullNo h hx rfl hd rfl k) (KN (fun q => nomatch q))
theorem ifnonnullV (h : At T m c below) (hx : p.tables.exec = Jvm.exec) (pc' pn : Nat) {v : Value} (hv : v.isRef = true) {o : Int} (hd : decode c.code pc = .ok (.ifnonnull o, 3)) (ho : 0 ≤ (pc : Int) + o) (hp : ((pc : Int) + o).toNat = pc') (hq : pc + 3 = pn)
    (KY : ¬ v = .null → Goes p e below Post (T.setTop (mkF m pc' ls st))) (KN : v = .null → Goes p e below Post (T.setTop (mkF m pn ls st))) : Goes p e below Post (T.setTop (mkF m pc ls (v :: st))) := by
  subst hq
  rcases ref_cases hv with hv0 | ⟨b, hv0⟩
  · subst hv0; exact Goes.go (fun _ k => XT.ifnonnullNo h hx rfl hd rfl k) (KN rfl)
  · subst hv0; exact Goes.go (fun _ k => XT.ifnonnullYes h hx rfl (pc0 := pc) rfl hd rfl ho hp k) (KY (fun q => nomatch q))
end G
end Goes
end Jvm.OwnKit
namespace Jvm.OwnKit
open Sem ClassFile Op Lib Jvm.Stand Jvm.Free Jvm.LawKit Jvm.RoadKit
theorem ext_refl (h : Heap) : Ext h h := ⟨Nat.le_refl _, fun _ _ q => q⟩
theorem ext_trans {h h' h'' : Heap} (A : Ext h h') (B : Ext h' h'') : Ext h h'' := ⟨Nat.le_trans A.1 B.1, fun x c q => B.2 x c (A.2 x c q)⟩
theorem ext_keep {h h' : Heap} (E : Ext h h') (ws : List Addr) : Keep h h' ws := (Keep.refl h ws).ext E
theorem keep_ext {h h' : Heap} {ws : List Addr} (K : Keep h h' ws) (q : ∀ x ∈ ws, h.size ≤ x) : Ext h h' :=
  ⟨K.1, fun x c hx => K.2.1 x c hx fun z => absurd (Array.getElem?_eq_some_iff.mp hx).1 (Nat.not_lt.mpr (q x z))⟩
theorem keep_nil {h h' : Heap} (K : Keep h h' []) : Ext h h' := keep_ext K fun _ q => nomatch q
theorem keep_one {h h' : Heap} {a : Addr} (K : Keep h h' [a]) (q : h.size ≤ a) : Ext h h' := keep_ext K fun x hx => by cases List.mem_singleton.mp hx; exact q
/-- where the walk of a body stands: its start's heap h0, what it may write of it (ws), the tables' base vm0, the state, the heap -/
def Wk (p : Program) (l : Launch) (e : Env) (R : Room) (s : State) (m : MethodId) (args : Array Value) (below : List Frame) (meth : Method) (c : Code) (Z : State) (EL : List (String × Nat)) (h0 : Heap) (ws : List Addr) (vm0 : Vm) (T : State) (h : Heap) (cells slots : Nat) : Prop :=
  ∃ locs, Stand p l e R (s.setVm vm0) m args below meth c T locs cells slots ∧ Fr Z.heap.size locs ∧ T.heap = h ∧ Keep h0 h ws ∧ s.heap = h0 ∧ Ext Z.heap h0 ∧ (∀ x ∈ ws, Z.heap.size ≤ x) ∧ Z.Warmed39 vm0 ∧ (∃ k0, s.Since vm0 k0 ∧ k0 ≤ h.size) ∧ CHr Z EL s.vm h0 vm0 h
section Wk
variable {p : Program} {l : Launch} {e : Env} {R : Room} {s : State} {m : MethodId} {args : Array Value} {below : List Frame} {meth : Method} {c : Code} {Z : State} {EL : List (String × Nat)} {h0 : Heap} {ws : List Addr} {vm0 : Vm} {T : State} {h : Heap} {cells slots : Nat} {a0 : Array Value} {Post : Outcome → State → Prop} {pc : Nat} {ls : Array Slot} {st rest : List Value} {own : String}
theorem Wk.here (W : Wk p l e R s m args below meth c Z EL h0 ws vm0 T h cells slots) : At T m c below := by obtain ⟨_, X, _⟩ := W; exact X.here
theorem Wk.warm (W : Wk p l e R s m args below meth c Z EL h0 ws vm0 T h cells slots) : Z.Warmed39 vm0 := by obtain ⟨_, _, _, _, _, _, _, _, q, _⟩ := W; exact q
theorem Wk.alike (W : Wk p l e R s m args below meth c Z EL h0 ws vm0 T h cells slots) : Z.vm.Alike vm0 := W.warm.alike
theorem Wk.chr (W : Wk p l e R s m args below meth c Z EL h0 ws vm0 T h cells slots) : CHr Z EL s.vm h0 vm0 h := by obtain ⟨_, _, _, _, _, _, _, _, _, _, q⟩ := W; exact q
theorem Wk.ch (W : Wk p l e R s m args below meth c Z EL h0 ws vm0 T h cells slots) : CHv Z EL vm0 h := W.chr.1
theorem Wk.keeps (W : Wk p l e R s m args below meth c Z EL h0 ws vm0 T h cells slots) : Keep h0 h ws := by obtain ⟨_, _, _, _, q, _⟩ := W; exact q
theorem Wk.size (W : Wk p l e R s m args below meth c Z EL h0 ws vm0 T h cells slots) : h0.size ≤ h.size := W.keeps.1
theorem Wk.zsize (W : Wk p l e R s m args below meth c Z EL h0 ws vm0 T h cells slots) : Z.heap.size ≤ h0.size := by obtain ⟨_, _, _, _, _, _, q, _⟩ := W; exact q.1
theorem Wk.mono (W : Wk p l e R s m args below meth c Z EL h0 ws vm0 T h cells slots) {cells' slots' : Nat} (hc : cells ≤ cells') (hn : slots ≤ slots') : Wk p l e R s m args below meth c Z EL h0 ws vm0 T h cells' slots' := by
  obtain ⟨locs, X, r⟩ := W; exact ⟨locs, X.mono hc hn, r⟩
theorem Wk.old (W : Wk p l e R s m args below meth c Z EL h0 ws vm0 T h cells slots) : Ext Z.heap h := by
  obtain ⟨_, _, _, _, K, _, E, hws, _⟩ := W
  exact ⟨Nat.le_trans E.1 K.1, fun x cl q => K.2.1 x cl (E.2 x cl q) fun z => absurd (Array.getElem?_eq_some_iff.mp q).1 (Nat.not_lt.mpr (hws x z))⟩
theorem Wk.wown (W : Wk p l e R s m args below meth c Z EL h0 ws vm0 T h cells slots) (ho : Z.vm.findClass own = some m.cls) : (s.setVm vm0).vm.findClass own = some m.cls := by
  show vm0.findClass own = some m.cls
  rw [W.alike.findClass]; exact ho
theorem Wk.may (W : Wk p l e R s m args below meth c Z EL h0 ws vm0 T h cells slots) {a : Addr} (q : a ∈ ws ∨ h0.size ≤ a) : Z.heap.size ≤ a := by
  obtain ⟨_, _, _, _, _, _, E, hws, _⟩ := W
  exact q.elim (hws a) fun r => Nat.le_trans E.1 r
theorem Wk.grown (W : Wk p l e R s m args below meth c Z EL h0 ws vm0 T h cells slots) {T' : State} {h' : Heap} {k n : Nat} (X' : ∀ locs, Stand p l e R (s.setVm vm0) m args below meth c T locs cells slots → Stand p l e R (s.setVm vm0) m args below meth c T' locs k n) (e' : T'.heap = h') (E : Ext h h') : Wk p l e R s m args below meth c Z EL h0 ws vm0 T' h' k n := by
  obtain ⟨locs, X, N, eh, K, es, O, hws, hZ, ⟨k0, hS, hk⟩, C⟩ := W
  exact ⟨locs, X' locs X, N, e', K.ext E, es, O, hws, hZ, ⟨k0, hS, Nat.le_trans hk E.1⟩, C.trans (CHr.ext E C.1)⟩
theorem Wk.newO (W : Wk p l e R s m args below meth c Z EL h0 ws vm0 T h cells slots) (hx : p.tables.exec = Jvm.exec) (ho : Z.vm.findClass own = some m.cls) {C : String} {index n : Nat} (w : (Cond.classLink own index C).before a0 Z = true) (wi : (Cond.instantiable C n).before a0 Z = true) (wz : (Cond.initialized C).before a0 Z = true)
    (pc' : Nat) (hd : decode c.code pc = .ok (.new index, 3)) (hp : pc + 3 = pc') (hc : cells + 1 ≤ R.cells) (hl : slots + n ≤ R.slots)
    (K : ∀ (T' : State) (h' : Heap) (a : Addr), Wk p l e R s m args below meth c Z EL h0 ws vm0 T' h' (cells + 1) (slots + n) → Ext h h' → a = h.size → Exa Z h' a C → (∀ {O nm d : String} {ty : FieldType}, Laid Z a0 C O nm d → parseFieldDescriptor d = some ty → Fld Z h' a O nm d (defaultValue ty)) → Safe Z EL vm0 h' a → Goes p e below Post (T'.setTop (mkF m pc' ls (.ref a :: st)))) : Goes p e below Post (T.setTop (mkF m pc ls st)) := by
  subst hp
  have ho' := W.wown ho
  have W0 := W
  obtain ⟨locs, X, N, eh, K0, es, O, hws, hZ, ⟨k0, hS, hk⟩, C⟩ := W
  obtain ⟨T', h', X', e', E, A, D, -, stp⟩ := RoadKit.newO X hx hZ ho' w wi wz eh (g := mkF m pc ls st) rfl hd hc hl
  exact Goes.go stp (K T' h' _ ⟨locs, X', N, e', K0.ext E, es, O, hws, hZ, ⟨k0, hS, Nat.le_trans hk E.1⟩, C.trans (CHr.ext E C.1)⟩ E rfl A D fun B => Safe.new (Nat.le_refl _) ((C.1.step fun _ _ _ q => E.2 _ _ q).2 _ B))
theorem Wk.newP (W : Wk p l e R s m args below meth c Z EL h0 ws vm0 T h cells slots) (hx : p.tables.exec = Jvm.exec) {aty : ArrayType} (w : (Cond.arrayClass (newarray.typeOf aty)).before a0 Z = true)
    (pc' : Nat) (hd : decode c.code pc = .ok (.newarray aty, 2)) {n : Int32} (hn : ¬ n < 0) (cap : Nat) (hcap : n.toNatClampNeg ≤ cap) (hp : pc + 2 = pc') (hb : cap * 8 ≤ 536870912) (hc : cells + 1 ≤ R.cells) (hl : slots + cap ≤ R.slots)
    (K : ∀ (T' : State) (h' : Heap) (a : Addr) (k : ClassId), Wk p l e R s m args below meth c Z EL h0 ws vm0 T' h' (cells + 1) (slots + cap) → Ext h h' → a = h.size → Arv Z h' a k (newarray.typeOf aty) n (List.replicate cap (defaultValue (newarray.typeOf aty))) (defaultValue (newarray.typeOf aty)) → Safe Z EL vm0 h' a → Goes p e below Post (T'.setTop (mkF m pc' ls (.ref a :: st)))) : Goes p e below Post (T.setTop (mkF m pc ls (.int n :: st))) := by
  subst hp
  obtain ⟨locs, X, N, eh, K0, es, O, hws, hZ, ⟨k0, hS, hk⟩, C⟩ := W
  obtain ⟨T', h', cA, X', e', E, A, stp⟩ := RoadKit.newP X hx hZ w eh (g := mkF m pc ls (.int n :: st)) rfl hd rfl hn hcap hb hc hl
  exact Goes.go stp (K T' h' _ cA ⟨locs, X', N, e', K0.ext E, es, O, hws, hZ, ⟨k0, hS, Nat.le_trans hk E.1⟩, C.trans (CHr.ext E C.1)⟩ E rfl ((Arv.new A hn).pad (pad_rep [] _ cap)) fun B => Safe.new (Nat.le_refl _) ((C.1.step fun _ _ _ q => E.2 _ _ q).2 _ B))
theorem Wk.castore (W : Wk p l e R s m args below meth c Z EL h0 ws vm0 T h cells slots) (hx : p.tables.exec = Jvm.exec) {a : Addr} {k : ClassId} {n : Int32} {vs : List Value} {d : Value} (V : Arv Z h a k .char n vs d) (ha : a ∈ ws ∨ h0.size ≤ a) {j : Int32} {x : Int32} (x' : Int32) (hn : nar .char x = x') (i : Nat) (hj : j.toNatClampNeg = i) (hin : ¬ j < 0 ∧ j < n) (hi : i < vs.length)
    (pc' : Nat) (hd : decode c.code pc = .ok (.castore, 1)) (hp : pc + 1 = pc')
    (K : ∀ (T' : State) (h' : Heap), Wk p l e R s m args below meth c Z EL h0 ws vm0 T' h' cells slots → Keep h h' [a] → CHr Z EL vm0 h vm0 h' → Arv Z h' a k .char n (vs.set i (.int x')) d → Goes p e below Post (T'.setTop (mkF m pc' ls st))) : Goes p e below Post (T.setTop (mkF m pc ls (.int x :: .int j :: .ref a :: st))) := by
  subst hp
  have hza := W.may ha
  obtain ⟨locs, X, N, eh, K0, es, O, hws, hZ, ⟨k0, hS, hk⟩, C⟩ := W
  obtain ⟨cl, A, q1, S, q3, H, G⟩ := V
  obtain ⟨T', h', X', e', Wr', stp⟩ := RoadKit.stC X hx hZ eh A (j := j) (inb_of S hin) (g := mkF m pc ls (.int x :: .int j :: .ref a :: st)) rfl rfl hd
  rw [show nar .char x = x' from hn] at Wr'
  have C1 := CHr.wr Wr' (Safe.arr hZ.alike A (by intro q; cases q)) C.1
  exact Goes.go stp (K T' h' ⟨_, X', Fr.snoc X' N hza, e', K0.wr Wr' ha, es, O, hws, hZ, ⟨k0, hS, Nat.le_trans hk (Keep.of_wr Wr').1⟩, C.trans C1⟩ (Keep.of_wr Wr') C1 (Arv.set A q1 S q3 H G (by rw [← hn]; exact fits_nar_char _) Wr' i hj hi))
theorem Wk.iastore (W : Wk p l e R s m args below meth c Z EL h0 ws vm0 T h cells slots) (hx : p.tables.exec = Jvm.exec) {a : Addr} {k : ClassId} {n : Int32} {vs : List Value} {d : Value} (V : Arv Z h a k .int n vs d) (ha : a ∈ ws ∨ h0.size ≤ a) {j : Int32} {x : Int32} (x' : Int32) (hn : x = x') (i : Nat) (hj : j.toNatClampNeg = i) (hin : ¬ j < 0 ∧ j < n) (hi : i < vs.length)
    (pc' : Nat) (hd : decode c.code pc = .ok (.iastore, 1)) (hp : pc + 1 = pc')
    (K : ∀ (T' : State) (h' : Heap), Wk p l e R s m args below meth c Z EL h0 ws vm0 T' h' cells slots → Keep h h' [a] → CHr Z EL vm0 h vm0 h' → Arv Z h' a k .int n (vs.set i (.int x')) d → Goes p e below Post (T'.setTop (mkF m pc' ls st))) : Goes p e below Post (T.setTop (mkF m pc ls (.int x :: .int j :: .ref a :: st))) := by
  subst hp
  have hza := W.may ha
  obtain ⟨locs, X, N, eh, K0, es, O, hws, hZ, ⟨k0, hS, hk⟩, C⟩ := W
  obtain ⟨cl, A, q1, S, q3, H, G⟩ := V
  obtain ⟨T', h', X', e', Wr', stp⟩ := RoadKit.stI X hx hZ eh A (j := j) (inb_of S hin) (g := mkF m pc ls (.int x :: .int j :: .ref a :: st)) rfl rfl hd
  rw [show x = x' from hn] at Wr'
  have C1 := CHr.wr Wr' (Safe.arr hZ.alike A (by intro q; cases q)) C.1
  exact Goes.go stp (K T' h' ⟨_, X', Fr.snoc X' N hza, e', K0.wr Wr' ha, es, O, hws, hZ, ⟨k0, hS, Nat.le_trans hk (Keep.of_wr Wr').1⟩, C.trans C1⟩ (Keep.of_wr Wr') C1 (Arv.set A q1 S q3 H G (rfl) Wr' i hj hi))
theorem Wk.lastore (W : Wk p l e R s m args below meth c Z EL h0 ws vm0 T h cells slots) (hx : p.tables.exec = Jvm.exec) {a : Addr} {k : ClassId} {n : Int32} {vs : List Value} {d : Value} (V : Arv Z h a k .long n vs d) (ha : a ∈ ws ∨ h0.size ≤ a) {j : Int32} {x : Int64} (x' : Int64) (hn : x = x') (i : Nat) (hj : j.toNatClampNeg = i) (hin : ¬ j < 0 ∧ j < n) (hi : i < vs.length)
    (pc' : Nat) (hd : decode c.code pc = .ok (.lastore, 1)) (hp : pc + 1 = pc')
    (K : ∀ (T' : State) (h' : Heap), Wk p l e R s m args below meth c Z EL h0 ws vm0 T' h' cells slots → Keep h h' [a] → CHr Z EL vm0 h vm0 h' → Arv Z h' a k .long n (vs.set i (.long x')) d → Goes p e below Post (T'.setTop (mkF m pc' ls st))) : Goes p e below Post (T.setTop (mkF m pc ls (.long x :: .int j :: .ref a :: st))) := by
  subst hp
  have hza := W.may ha
  obtain ⟨locs, X, N, eh, K0, es, O, hws, hZ, ⟨k0, hS, hk⟩, C⟩ := W
  obtain ⟨cl, A, q1, S, q3, H, G⟩ := V
  obtain ⟨T', h', X', e', Wr', stp⟩ := RoadKit.stJ X hx hZ eh A (j := j) (inb_of S hin) (g := mkF m pc ls (.long x :: .int j :: .ref a :: st)) rfl rfl hd
  rw [show x = x' from hn] at Wr'
  have C1 := CHr.wr Wr' (Safe.arr hZ.alike A (by intro q; cases q)) C.1
  exact Goes.go stp (K T' h' ⟨_, X', Fr.snoc X' N hza, e', K0.wr Wr' ha, es, O, hws, hZ, ⟨k0, hS, Nat.le_trans hk (Keep.of_wr Wr').1⟩, C.trans C1⟩ (Keep.of_wr Wr') C1 (Arv.set A q1 S q3 H G (rfl) Wr' i hj hi))
theorem Wk.bastore (W : Wk p l e R s m args below meth c Z EL h0 ws vm0 T h cells slots) (hx : p.tables.exec = Jvm.exec) {a : Addr} {k : ClassId} {n : Int32} {vs : List Value} {d : Value} (V : Arv Z h a k .byte n vs d) (ha : a ∈ ws ∨ h0.size ≤ a) (sf : Safe Z EL vm0 h a) {j : Int32} {x : Int32} (x' : Int32) (hn : nar .byte x = x') (i : Nat) (hj : j.toNatClampNeg = i) (hin : ¬ j < 0 ∧ j < n) (hi : i < vs.length)
    (pc' : Nat) (hd : decode c.code pc = .ok (.bastore, 1)) (hp : pc + 1 = pc')
    (K : ∀ (T' : State) (h' : Heap), Wk p l e R s m args below meth c Z EL h0 ws vm0 T' h' cells slots → Keep h h' [a] → CHr Z EL vm0 h vm0 h' → Arv Z h' a k .byte n (vs.set i (.int x')) d → Goes p e below Post (T'.setTop (mkF m pc' ls st))) : Goes p e below Post (T.setTop (mkF m pc ls (.int x :: .int j :: .ref a :: st))) := by
  subst hp
  have hza := W.may ha
  obtain ⟨locs, X, N, eh, K0, es, O, hws, hZ, ⟨k0, hS, hk⟩, C⟩ := W
  obtain ⟨cl, A, q1, S, q3, H, G⟩ := V
  obtain ⟨T', h', X', e', Wr', stp⟩ := RoadKit.stB X hx hZ eh A (j := j) (inb_of S hin) (g := mkF m pc ls (.int x :: .int j :: .ref a :: st)) rfl rfl hd
  rw [show nar .byte x = x' from hn] at Wr'
  have C1 := CHr.wr Wr' sf C.1
  exact Goes.go stp (K T' h' ⟨_, X', Fr.snoc X' N hza, e', K0.wr Wr' ha, es, O, hws, hZ, ⟨k0, hS, Nat.le_trans hk (Keep.of_wr Wr').1⟩, C.trans C1⟩ (Keep.of_wr Wr') C1 (Arv.set A q1 S q3 H G (by rw [← hn]; exact fits_nar_byte _) Wr' i hj hi))
theorem Wk.caload (W : Wk p l e R s m args below meth c Z EL h0 ws vm0 T h cells slots) (hx : p.tables.exec = Jvm.exec) {a : Addr} {k : ClassId} {n : Int32} {vs : List Value} {d : Value} (V : Arv Z h a k .char n vs d) {j : Int32} (hin : ¬ j < 0 ∧ j < n) (v : Value) (hv : vs.getD j.toNatClampNeg d = v)
    (pc' : Nat) (hd : decode c.code pc = .ok (.caload, 1)) (hp : pc + 1 = pc') (K : Goes p e below Post (T.setTop (mkF m pc' ls (v :: st)))) : Goes p e below Post (T.setTop (mkF m pc ls (.int j :: .ref a :: st))) := by
  subst hp
  obtain ⟨locs, X, N, eh, K0, es, O, hws, hZ, -, C⟩ := W
  obtain ⟨cl, A, q1, S, q3, H, G⟩ := V
  exact Goes.go (fun tg k => X.caload hx (j := j) (v := v) (by rw [eh]; exact A.1) (State.isArrayOf_alike hZ.alike A.2.1) A.2.2 (inb_of S hin) (H.at (inb_of S hin) hv) (g := mkF m pc ls (.int j :: .ref a :: st)) rfl rfl hd tg k) K
theorem Wk.iaload (W : Wk p l e R s m args below meth c Z EL h0 ws vm0 T h cells slots) (hx : p.tables.exec = Jvm.exec) {a : Addr} {k : ClassId} {n : Int32} {vs : List Value} {d : Value} (V : Arv Z h a k .int n vs d) {j : Int32} (hin : ¬ j < 0 ∧ j < n) (v : Value) (hv : vs.getD j.toNatClampNeg d = v)
    (pc' : Nat) (hd : decode c.code pc = .ok (.iaload, 1)) (hp : pc + 1 = pc') (K : Goes p e below Post (T.setTop (mkF m pc' ls (v :: st)))) : Goes p e below Post (T.setTop (mkF m pc ls (.int j :: .ref a :: st))) := by
  subst hp
  obtain ⟨locs, X, N, eh, K0, es, O, hws, hZ, -, C⟩ := W
  obtain ⟨cl, A, q1, S, q3, H, G⟩ := V
  exact Goes.go (fun tg k => X.iaload hx (j := j) (v := v) (by rw [eh]; exact A.1) (State.isArrayOf_alike hZ.alike A.2.1) A.2.2 (inb_of S hin) (H.at (inb_of S hin) hv) (g := mkF m pc ls (.int j :: .ref a :: st)) rfl rfl hd tg k) K
theorem Wk.laload (W : Wk p l e R s m args below meth c Z EL h0 ws vm0 T h cells slots) (hx : p.tables.exec = Jvm.exec) {a : Addr} {k : ClassId} {n : Int32} {vs : List Value} {d : Value} (V : Arv Z h a k .long n vs d) {j : Int32} (hin : ¬ j < 0 ∧ j < n) (v : Value) (hv : vs.getD j.toNatClampNeg d = v)
    (pc' : Nat) (hd : decode c.code pc = .ok (.laload, 1)) (hp : pc + 1 = pc') (K : Goes p e below Post (T.setTop (mkF m pc' ls (v :: st)))) : Goes p e below Post (T.setTop (mkF m pc ls (.int j :: .ref a :: st))) := by
  subst hp
  obtain ⟨locs, X, N, eh, K0, es, O, hws, hZ, -, C⟩ := W
  obtain ⟨cl, A, q1, S, q3, H, G⟩ := V
  exact Goes.go (fun tg k => X.laload hx (j := j) (v := v) (by rw [eh]; exact A.1) (State.isArrayOf_alike hZ.alike A.2.1) A.2.2 (inb_of S hin) (H.at (inb_of S hin) hv) (g := mkF m pc ls (.int j :: .ref a :: st)) rfl rfl hd tg k) K
theorem Wk.baload (W : Wk p l e R s m args below meth c Z EL h0 ws vm0 T h cells slots) (hx : p.tables.exec = Jvm.exec) {a : Addr} {k : ClassId} {n : Int32} {vs : List Value} {d : Value} (V : Arv Z h a k .byte n vs d) {j : Int32} (hin : ¬ j < 0 ∧ j < n) (v : Value) (hv : vs.getD j.toNatClampNeg d = v)
    (pc' : Nat) (hd : decode c.code pc = .ok (.baload, 1)) (hp : pc + 1 = pc') (K : Goes p e below Post (T.setTop (mkF m pc' ls (v :: st)))) : Goes p e below Post (T.setTop (mkF m pc ls (.int j :: .ref a :: st))) := by
  subst hp
  obtain ⟨locs, X, N, eh, K0, es, O, hws, hZ, -, C⟩ := W
  obtain ⟨cl, A, q1, S, q3, H, G⟩ := V
  exact Goes.go (fun tg k => X.baloadBytes hx (j := j) (v := v) (by rw [eh]; exact A.1) (State.isArrayOf_alike hZ.alike A.2.1) A.2.2 (inb_of S hin) (H.at (inb_of S hin) hv) (g := mkF m pc ls (.int j :: .ref a :: st)) rfl rfl hd tg k) K
theorem Wk.arraylength (W : Wk p l e R s m args below meth c Z EL h0 ws vm0 T h cells slots) (hx : p.tables.exec = Jvm.exec) {a : Addr} {k : ClassId} {ty : FieldType} {n : Int32} {vs : List Value} {d : Value} (V : Arv Z h a k ty n vs d)
    (pc' : Nat) (hd : decode c.code pc = .ok (.arraylength, 1)) (hp : pc + 1 = pc') (K : Goes p e below Post (T.setTop (mkF m pc' ls (.int n :: st)))) : Goes p e below Post (T.setTop (mkF m pc ls (.ref a :: st))) := by
  subst hp
  obtain ⟨locs, X, N, eh, K0, es, O, hws, hZ, -, C⟩ := W
  obtain ⟨cl, A, q1, S, q3, H, G⟩ := V
  refine Goes.go (fun tg k => X.arraylength hx (by rw [eh]; exact A.1) (State.isArrayOf_alike hZ.alike A.2.1) (g := mkF m pc ls (.ref a :: st)) rfl rfl hd tg ?_) K
  rw [len_of S q3]; exact k
theorem Wk.getF (W : Wk p l e R s m args below meth c Z EL h0 ws vm0 T h cells slots) (hx : p.tables.exec = Jvm.exec) (ho : Z.vm.findClass own = some m.cls) {R0 O n d host : String} {index : Nat} (w : (Cond.fieldLink own index R0 n d).before a0 Z = true ∨ (Cond.fieldLinkNest own index R0 n d host).before a0 Z = true) (via : Via Z R0 O n d)
    {a : Addr} {v : Value} (F : Fld Z h a O n d v) (pc' : Nat) (hd : decode c.code pc = .ok (.getfield index, 3)) (hp : pc + 3 = pc')
    (K : ∀ (T' : State), Wk p l e R s m args below meth c Z EL h0 ws vm0 T' h cells slots → Goes p e below Post (T'.setTop (mkF m pc' ls (v :: st)))) : Goes p e below Post (T.setTop (mkF m pc ls (.ref a :: st))) := by
  subst hp
  have ho' := W.wown ho
  obtain ⟨locs, X, N, eh, r⟩ := W
  obtain ⟨hK0, hes, hO, hws, hZ, r2⟩ := r
  obtain ⟨T', X', e', stp⟩ := RoadKit.getF X hx hZ ho' w via eh F (g := mkF m pc ls (.ref a :: st)) rfl rfl hd
  exact Goes.go stp (K T' ⟨locs, X', N, e', hK0, hes, hO, hws, hZ, r2⟩)
theorem Wk.getS (W : Wk p l e R s m args below meth c Z EL h0 ws vm0 T h cells slots) (hx : p.tables.exec = Jvm.exec) (ho : Z.vm.findClass own = some m.cls) {R0 O n d : String} {index : Nat} (w : (Cond.fieldLink own index R0 n d).before a0 Z = true) (via : Via Z R0 O n d)
    {v : Value} (F : Sta Z h O n d v) (pc' : Nat) (hd : decode c.code pc = .ok (.getstatic index, 3)) (hp : pc + 3 = pc')
    (K : ∀ (T' : State), Wk p l e R s m args below meth c Z EL h0 ws vm0 T' h cells slots → Goes p e below Post (T'.setTop (mkF m pc' ls (v :: st)))) : Goes p e below Post (T.setTop (mkF m pc ls st)) := by
  subst hp
  have ho' := W.wown ho
  obtain ⟨locs, X, N, eh, r⟩ := W
  obtain ⟨hK0, hes, hO, hws, hZ, r2⟩ := r
  obtain ⟨T', X', e', stp⟩ := RoadKit.getS (host := "") X hx hZ ho' w via eh F (g := mkF m pc ls st) rfl hd
  exact Goes.go stp (K T' ⟨locs, X', N, e', hK0, hes, hO, hws, hZ, r2⟩)
theorem Wk.putF (W : Wk p l e R s m args below meth c Z EL h0 ws vm0 T h cells slots) (hx : p.tables.exec = Jvm.exec) (ho : Z.vm.findClass own = some m.cls) {R0 O n d C : String} {index kk : Nat} {ty : FieldType} (w : (Cond.fieldLink own index R0 n d).before a0 Z = true) (via : Via Z R0 O n d)
    {a : Addr} {v old : Value} (v' : Value) (F : Fld Z h a O n d old) (E : Exa Z h a C) (L : (Cond.lays C O n d).before a0 Z = true ∨ ((Cond.laysFinal C O n d).before a0 Z = true ∧ own = O ∧ meth.name = "<init>")) (wi : (Cond.instantiable C kk).before a0 Z = true)
    (hty : parseFieldDescriptor d = some ty) (hn : narrow ty v = v') (hf : fits ty v' = true) (ha : a ∈ ws ∨ h0.size ≤ a) (sf : Safe Z EL vm0 h a) (pc' : Nat) (hd : decode c.code pc = .ok (.putfield index, 3)) (hp : pc + 3 = pc')
    (K : ∀ (T' : State) (h' : Heap), Wk p l e R s m args below meth c Z EL h0 ws vm0 T' h' cells slots → Wr h h' a (RoadKit.slotOf Z O n d) v' → CHr Z EL vm0 h vm0 h' → Goes p e below Post (T'.setTop (mkF m pc' ls st))) : Goes p e below Post (T.setTop (mkF m pc ls (v :: .ref a :: st))) := by
  subst hp
  have hza := W.may ha
  have ho' := W.wown ho
  obtain ⟨locs, X, N, eh, K0, es, O', hws, hZ, ⟨k0, hS, hk⟩, C'⟩ := W
  obtain ⟨T', h', X', e', Wr', stp⟩ := RoadKit.putFN X hx hZ ho' w via eh F E L wi hty hn hf (g := mkF m pc ls (v :: .ref a :: st)) rfl rfl hd
  have C1 := CHr.wr Wr' sf C'.1
  exact Goes.go stp (K T' h' ⟨_, X', Fr.snoc X' N hza, e', K0.wr Wr' ha, es, O', hws, hZ, ⟨k0, hS, Nat.le_trans hk (Keep.of_wr Wr').1⟩, C'.trans C1⟩ Wr' C1)
theorem Wk.initO (W : Wk p l e R s m args below meth c Z EL h0 ws vm0 T h cells slots) (hx : p.tables.exec = Jvm.exec) (ho : Z.vm.findClass own = some m.cls) {index : Nat} (w1 : (Cond.methodLink own index Lib.objectInit).before a0 Z = true) (w2 : (Cond.instanceMethod Lib.objectInit).before a0 Z = true) (w3 : (Cond.code Lib.objectInit ⟨#[0xb1]⟩ 1 none).before a0 Z = true)
    (hsz : ls.size = c.maxLocals) {a : Addr} (pc' : Nat) (hd : decode c.code pc = .ok (.invokespecial index, 3)) (hp : pc + 3 = pc') (hf : 1 ≤ R.frames) (Wd : Nat) (hW : (st.map fun v => v.category).sum ≤ Wd) (hl : Wd + 12 ≤ R.locals)
    (K : ∀ (T' : State), Wk p l e R s m args below meth c Z EL h0 ws vm0 T' h cells slots → Goes p e below Post (T'.setTop (mkF m pc' ls st))) : Goes p e below Post (T.setTop (mkF m pc ls (.ref a :: st))) := by
  subst hp
  have ho' := W.wown ho
  obtain ⟨locs, X, N, eh, r⟩ := W
  obtain ⟨hK0, hes, hO, hws, hZ, r2⟩ := r
  obtain ⟨T', X', e', stp⟩ := RoadKit.initO X hx hZ ho' w1 w2 w3 eh (g := mkF m pc ls (.ref a :: st)) rfl hsz rfl hd hf (W := Wd) (by show 2 * 0 + _ ≤ _; omega) hl
  exact Goes.go stp (K T' ⟨locs, X', N, e', hK0, hes, hO, hws, hZ, r2⟩)
theorem Wk.ldcI (W : Wk p l e R s m args below meth c Z EL h0 ws vm0 T h cells slots) (hx : p.tables.exec = Jvm.exec) (ho : Z.vm.findClass own = some m.cls) {index : Nat} {v : Int32} (w : (Cond.constant own index v).before a0 Z = true)
    (pc' : Nat) (hd : decode c.code pc = .ok (.ldc index, 2)) (hp : pc + 2 = pc') (K : Goes p e below Post (T.setTop (mkF m pc' ls (.int v :: st)))) : Goes p e below Post (T.setTop (mkF m pc ls st)) := by
  subst hp
  have ho' := W.wown ho
  have hZ := W.warm
  obtain ⟨locs, X, r⟩ := W
  exact Goes.go (X.ldcInt hx ho' (mvT (s := s.setVm vm0) hZ w) (g := mkF m pc ls st) rfl hd) K
theorem Wk.ldc2 (W : Wk p l e R s m args below meth c Z EL h0 ws vm0 T h cells slots) (hx : p.tables.exec = Jvm.exec) (ho : Z.vm.findClass own = some m.cls) {index : Nat} {v : Int64} (w : (Cond.constantLong own index v).before a0 Z = true)
    (pc' : Nat) (hd : decode c.code pc = .ok (.ldc2_w index, 3)) (hp : pc + 3 = pc') (K : Goes p e below Post (T.setTop (mkF m pc' ls (.long v :: st)))) : Goes p e below Post (T.setTop (mkF m pc ls st)) := by
  subst hp
  have ho' := W.wown ho
  have hZ := W.warm
  obtain ⟨locs, X, r⟩ := W
  exact Goes.go (X.ldc2Long hx ho' (mvT (s := s.setVm vm0) hZ w) (g := mkF m pc ls st) rfl hd) K
theorem Wk.castY (W : Wk p l e R s m args below meth c Z EL h0 ws vm0 T h cells slots) (hx : p.tables.exec = Jvm.exec) (ho : Z.vm.findClass own = some m.cls) {C : String} {index : Nat} (w : (Cond.classLink own index C).before a0 Z = true) {a : Addr} (F : Ins Z h a C true)
    (pc' : Nat) (hd : decode c.code pc = .ok (.checkcast index, 3)) (hp : pc + 3 = pc') (K : ∀ (T' : State), Wk p l e R s m args below meth c Z EL h0 ws vm0 T' h cells slots → Goes p e below Post (T'.setTop (mkF m pc' ls (.ref a :: st)))) : Goes p e below Post (T.setTop (mkF m pc ls (.ref a :: st))) := by
  subst hp
  have ho' := W.wown ho
  obtain ⟨locs, X, N, eh, r⟩ := W
  obtain ⟨hK0, hes, hO, hws, hZ, r2⟩ := r
  obtain ⟨T', X', e', stp⟩ := RoadKit.castY X hx hZ ho' w eh F (g := mkF m pc ls (.ref a :: st)) rfl rfl hd
  exact Goes.go stp (K T' ⟨locs, X', N, e', hK0, hes, hO, hws, hZ, r2⟩)
theorem Wk.instY (W : Wk p l e R s m args below meth c Z EL h0 ws vm0 T h cells slots) (hx : p.tables.exec = Jvm.exec) (ho : Z.vm.findClass own = some m.cls) {C : String} {index : Nat} (w : (Cond.classLink own index C).before a0 Z = true) {a : Addr} (F : Ins Z h a C true)
    (pc' : Nat) (hd : decode c.code pc = .ok (.instanceof index, 3)) (hp : pc + 3 = pc') (K : ∀ (T' : State), Wk p l e R s m args below meth c Z EL h0 ws vm0 T' h cells slots → Goes p e below Post (T'.setTop (mkF m pc' ls (.int 1 :: st)))) : Goes p e below Post (T.setTop (mkF m pc ls (.ref a :: st))) := by
  subst hp
  have ho' := W.wown ho
  obtain ⟨locs, X, N, eh, r⟩ := W
  obtain ⟨hK0, hes, hO, hws, hZ, r2⟩ := r
  obtain ⟨T', X', e', stp⟩ := RoadKit.instY X hx hZ ho' w eh F (g := mkF m pc ls (.ref a :: st)) rfl rfl hd
  exact Goes.go stp (K T' ⟨locs, X', N, e', hK0, hes, hO, hws, hZ, r2⟩)
theorem Wk.castNull (W : Wk p l e R s m args below meth c Z EL h0 ws vm0 T h cells slots) (hx : p.tables.exec = Jvm.exec) {index : Nat} (pc' : Nat) (hd : decode c.code pc = .ok (.checkcast index, 3)) (hp : pc + 3 = pc') (K : Goes p e below Post (T.setTop (mkF m pc' ls (.null :: st)))) : Goes p e below Post (T.setTop (mkF m pc ls (.null :: st))) := by
  subst hp
  obtain ⟨locs, X, r⟩ := W
  exact Goes.go (X.checkcastNull hx (g := mkF m pc ls (.null :: st)) rfl rfl hd) K
theorem Wk.instNull (W : Wk p l e R s m args below meth c Z EL h0 ws vm0 T h cells slots) (hx : p.tables.exec = Jvm.exec) {index : Nat} (pc' : Nat) (hd : decode c.code pc = .ok (.instanceof index, 3)) (hp : pc + 3 = pc') (K : Goes p e below Post (T.setTop (mkF m pc' ls (.int 0 :: st)))) : Goes p e below Post (T.setTop (mkF m pc ls (.null :: st))) := by
  subst hp
  obtain ⟨locs, X, r⟩ := W
  exact Goes.go (X.instanceofNull hx (g := mkF m pc ls (.null :: st)) rfl rfl hd) K
theorem Wk.instNo (W : Wk p l e R s m args below meth c Z EL h0 ws vm0 T h cells slots) (hx : p.tables.exec = Jvm.exec) (ho : Z.vm.findClass own = some m.cls) {C D : String} {index : Nat} (w : (Cond.classLink own index D).before a0 Z = true) {a : Addr} (E : Exa Z h a C) (F : ∃ c t, Z.vm.findClass C = some c ∧ Z.vm.findClass D = some t ∧ Z.vm.assignable c t = false)
    (pc' : Nat) (hd : decode c.code pc = .ok (.instanceof index, 3)) (hp : pc + 3 = pc') (K : ∀ (T' : State), Wk p l e R s m args below meth c Z EL h0 ws vm0 T' h cells slots → Goes p e below Post (T'.setTop (mkF m pc' ls (.int 0 :: st)))) : Goes p e below Post (T.setTop (mkF m pc ls (.ref a :: st))) := by
  subst hp
  have ho' := W.wown ho
  obtain ⟨locs, X, N, eh, r⟩ := W
  obtain ⟨hK0, hes, hO, hws, hZ, r2⟩ := r
  obtain ⟨T', X', e', stp⟩ := RoadKit.instNo X hx hZ ho' w eh E F (g := mkF m pc ls (.ref a :: st)) rfl rfl hd
  exact Goes.go stp (K T' ⟨locs, X', N, e', hK0, hes, hO, hws, hZ, r2⟩)
theorem Wk.newR (W : Wk p l e R s m args below meth c Z EL h0 ws vm0 T h cells slots) (hx : p.tables.exec = Jvm.exec) (ho : Z.vm.findClass own = some m.cls) {C : String} {index : Nat} (w1 : (Cond.classLink own index C).before a0 Z = true) (w2 : (Cond.arrayOver (.object C)).before a0 Z = true)
    (pc' : Nat) (hd : decode c.code pc = .ok (.anewarray index, 3)) {n : Int32} (hn : ¬ n < 0) (cap : Nat) (hcap : n.toNatClampNeg ≤ cap) (hp : pc + 3 = pc') (hb : cap * 8 ≤ 536870912) (hc : cells + 1 ≤ R.cells) (hl : slots + cap ≤ R.slots)
    (K : ∀ (T' : State) (h' : Heap) (a : Addr) (k : ClassId), Wk p l e R s m args below meth c Z EL h0 ws vm0 T' h' (cells + 1) (slots + cap) → Ext h h' → a = h.size → Arv Z h' a k (.object C) n (List.replicate cap .null) .null → Ovr Z k C → Safe Z EL vm0 h' a → Goes p e below Post (T'.setTop (mkF m pc' ls (.ref a :: st)))) : Goes p e below Post (T.setTop (mkF m pc ls (.int n :: st))) := by
  subst hp
  have ho' := W.wown ho
  obtain ⟨locs, X, N, eh, K0, es, O, hws, hZ, ⟨k0, hS, hk⟩, C'⟩ := W
  obtain ⟨T', h', cA, X', e', E, A, Ov, stp⟩ := RoadKit.newR X hx hZ ho' w1 w2 eh (g := mkF m pc ls (.int n :: st)) rfl hd rfl hn hcap hb hc hl
  exact Goes.go stp (K T' h' _ cA ⟨locs, X', N, e', K0.ext E, es, O, hws, hZ, ⟨k0, hS, Nat.le_trans hk E.1⟩, C'.trans (CHr.ext E C'.1)⟩ E rfl ((Arv.new A hn).pad (pad_rep [] _ cap)) Ov fun B => Safe.new (Nat.le_refl _) ((C'.1.step fun _ _ _ q => E.2 _ _ q).2 _ B))
theorem Wk.aastore (W : Wk p l e R s m args below meth c Z EL h0 ws vm0 T h cells slots) (hx : p.tables.exec = Jvm.exec) {a : Addr} {k : ClassId} {n : Int32} {vs : List Value} {d : Value} {C : String} (V : Arv Z h a k (.object C) n vs d) (ha : a ∈ ws ∨ h0.size ≤ a) {j : Int32} {x : Value} (hxr : x.isRef = true) (hst : ∀ cl : Cell, Arr Z h a cl (.object C) → cl.cls = k → Sto Z h a x) (i : Nat) (hj : j.toNatClampNeg = i) (hin : ¬ j < 0 ∧ j < n) (hi : i < vs.length)
    (pc' : Nat) (hd : decode c.code pc = .ok (.aastore, 1)) (hp : pc + 1 = pc')
    (K : ∀ (T' : State) (h' : Heap), Wk p l e R s m args below meth c Z EL h0 ws vm0 T' h' cells slots → Keep h h' [a] → CHr Z EL vm0 h vm0 h' → Arv Z h' a k (.object C) n (vs.set i x) d → Goes p e below Post (T'.setTop (mkF m pc' ls st))) : Goes p e below Post (T.setTop (mkF m pc ls (x :: .int j :: .ref a :: st))) := by
  subst hp
  have hza := W.may ha
  obtain ⟨locs, X, N, eh, K0, es, O, hws, hZ, ⟨k0, hS, hk⟩, C'⟩ := W
  obtain ⟨cl, A, q1, S, q3, H, G⟩ := V
  obtain ⟨T', h', X', e', Wr', stp⟩ := RoadKit.stR X hx hZ eh A (j := j) (inb_of S hin) rfl (hst cl A q1) (g := mkF m pc ls (x :: .int j :: .ref a :: st)) rfl rfl hd
  have C1 := CHr.wr Wr' (Safe.arr hZ.alike A (by intro q; cases q)) C'.1
  exact Goes.go stp (K T' h' ⟨_, X', Fr.snoc X' N hza, e', K0.wr Wr' ha, es, O, hws, hZ, ⟨k0, hS, Nat.le_trans hk (Keep.of_wr Wr').1⟩, C'.trans C1⟩ (Keep.of_wr Wr') C1 (Arv.set A q1 S q3 H G (by cases x <;> simp [Value.isRef] at hxr <;> rfl) Wr' i hj hi))
theorem Wk.arraycopy (W : Wk p l e R s m args below meth c Z EL h0 ws vm0 T h cells slots) (hx : p.tables.exec = Jvm.exec) (ho : Z.vm.findClass own = some m.cls) {index : Nat} (w1 : (Cond.methodLink own index Jvm.Stand.acN).before a0 Z = true) (w2 : (Cond.native Jvm.Stand.acN).before a0 Z = true) (w3 : (Cond.static Jvm.Stand.acN).before a0 Z = true) (w4 : (Cond.initialized "java/lang/System").before a0 Z = true)
    {a b : Addr} {k k' : ClassId} {ty : FieldType} {z z' sp dp nn : Int32} {vs vd : List Value} {dv dd : Value} (us : List Value) (V : Arv Z h a k ty z vs dv) (B : Arv Z h b k' ty z' vd dd) (hty : refKind ty = false) (h1 : ¬ sp < 0) (h2 : ¬ dp < 0) (h3 : ¬ nn < 0) (h4 : sp.toNatClampNeg + nn.toNatClampNeg ≤ z.toNatClampNeg) (h5 : dp.toNatClampNeg + nn.toNatClampNeg ≤ z'.toNatClampNeg)
    (hus : us = (List.range nn.toNatClampNeg).map fun i => vs.getD (sp.toNatClampNeg + i) dv) (hl : dp.toNatClampNeg + nn.toNatClampNeg ≤ vd.length) (hb : b ∈ ws ∨ h0.size ≤ b) (sf : Safe Z EL vm0 h b) (hsz : ls.size = c.maxLocals) (pc' : Nat) (hd : decode c.code pc = .ok (.invokestatic index, 3)) (hp : pc + 3 = pc') (hf : 1 ≤ R.frames) (Wd : Nat) (hW : (st.map fun v => v.category).sum ≤ Wd) (hlo : Wd + (nativeFrameWords "java/lang/System" "arraycopy" 5 + 11) ≤ R.locals)
    (K : ∀ (T' : State) (h' : Heap), Wk p l e R s m args below meth c Z EL h0 ws vm0 T' h' cells slots → Keep h h' [b] → CHr Z EL vm0 h vm0 h' → Arv Z h' b k' ty z' (vd.take dp.toNatClampNeg ++ us ++ vd.drop (dp.toNatClampNeg + nn.toNatClampNeg)) dd → Goes p e below Post (T'.setTop (mkF m pc' ls st))) : Goes p e below Post (T.setTop (mkF m pc ls (.int nn :: .int dp :: .ref b :: .int sp :: .ref a :: st))) := by
  subst hp
  have hzb := W.may hb
  have ho' := W.wown ho
  obtain ⟨locs, X, N, eh, K0, es, O, hws, hZ, ⟨k0, hS, hk⟩, C⟩ := W
  obtain ⟨T', h', L, X', e', N', K', B', stp⟩ := cpA X hx hZ ho' w1 w2 w3 w4 eh V B (Or.inl ⟨rfl, hty⟩) h1 h2 h3 h4 h5 hus hl N hzb (g := mkF m pc ls (.int nn :: .int dp :: .ref b :: .int sp :: .ref a :: st)) rfl hsz rfl hd hf (W := Wd) (by show 2 * 0 + _ ≤ _; omega) hlo
  have C1 := CHr.keep K' (fun x hx => by cases List.mem_singleton.mp hx; exact sf) C.1
  exact Goes.go stp (K T' h' ⟨L, X', N', e', K0.trans K' (fun x hx => by cases List.mem_singleton.mp hx; exact hb), es, O, hws, hZ, ⟨k0, hS, Nat.le_trans hk K'.1⟩, C.trans C1⟩ K' C1 B')
end Wk
/-- what a callee asks of the point and of its arguments; what it leaves -/
abbrev PreB (R : Room) (as' : Array Value) (h : Heap) (mc ms : Nat) : Pt → Array Value → Prop := fun A a => a = as' ∧ A.U.heap = h ∧ A.cells + mc ≤ R.cells ∧ A.slots + ms ≤ R.slots
abbrev PostB (Z : State) (h : Heap) (ws : List Addr) (Q : Option Value → Heap → Prop) (mc ms : Nat) : Pt → Array Value → Option Value → Pt → Prop := fun A _ v B => ∃ L, (Fr Z.heap.size L ∧ Keep h B.U.heap ws ∧ Q v B.U.heap) ∧ B.locs = A.locs ++ L ∧ B.cells = A.cells + mc ∧ B.slots = A.slots + ms
abbrev PostBW (Z : State) (EL : List (String × Nat)) (vm0 : Vm) (h : Heap) (ws : List Addr) (Q : Option Value → Heap → Prop) (mc ms : Nat) : Pt → Array Value → Option Value → Pt → Prop := fun A _ v B => ∃ L, (Fr Z.heap.size L ∧ Keep h B.U.heap ws ∧ Q v B.U.heap) ∧ B.locs = A.locs ++ L ∧ B.cells = A.cells + mc ∧ B.slots = A.slots + ms ∧ CHr Z EL vm0 h B.U.vm B.U.heap
/-- the end of a body that interns nothing -/
def PostN (s Z : State) (h0 : Heap) (ws : List Addr) (Q : Option Value → Heap → Prop) (mc ms : Nat) (o : Outcome) (U : State) : Prop :=
  ∃ v L, o = .returned v ∧ (Fr Z.heap.size L ∧ Keep h0 U.heap ws ∧ Q v U.heap) ∧ FrameEnd s o U L mc ms
/-- the end of a body that may intern -/
def PostW (s Z : State) (EL : List (String × Nat)) (h0 : Heap) (ws : List Addr) (Q : Option Value → Heap → Prop) (mc ms : Nat) (o : Outcome) (U : State) : Prop :=
  ∃ v L, o = .returned v ∧ (Fr Z.heap.size L ∧ Keep h0 U.heap ws ∧ Q v U.heap) ∧ CHr Z EL s.vm h0 U.vm U.heap ∧ ReturnedEndW s o U L mc ms
/-- the contract of a body that interns nothing -/
def CN (wl : List Cond) (l : Launch) (Z : State) (y : MethodName) (bytes : ByteArray) (ml : Nat) (ret : Option FieldType) (rm : Room) (as' : Array Value) (h0 : Heap) (ws : List Addr) (Q : Option Value → Heap → Prop) : Prop :=
  MetFree l y (head1 (Cond.code y bytes ml ret :: wl) rm) (fun a U => a = as' ∧ Z.Warmed39 U.vm ∧ U.heap = h0) (fun _ _ _ _ _ => True) (fun _ U o U' => PostN U Z h0 ws Q rm.cells rm.slots o U')
/-- the contract of a body that may intern -/
def CW (wl : List Cond) (l : Launch) (Z : State) (EL : List (String × Nat)) (y : MethodName) (bytes : ByteArray) (ml : Nat) (ret : Option FieldType) (rm : Room) (as' : Array Value) (h0 : Heap) (ws : List Addr) (Q : Option Value → Heap → Prop) : Prop :=
  MetFree l y (head1 (Cond.code y bytes ml ret :: wl) rm) (fun a U => a = as' ∧ Z.Warmed39 U.vm ∧ U.heap = h0 ∧ CHv Z EL U.vm h0 ∧ ∀ x ∈ ws, Safe Z EL U.vm h0 x) (fun _ _ _ _ _ => True) (fun _ U o U' => PostW U Z EL h0 ws Q rm.cells rm.slots o U')
section Calls
variable {p : Program} {l : Launch} {e : Env} {R : Room} {s : State} {m : MethodId} {args : Array Value} {below : List Frame} {meth : Method} {c : Code} {Z : State} {EL : List (String × Nat)} {h0 : Heap} {ws : List Addr} {vm0 : Vm} {T : State} {h : Heap} {cells slots : Nat} {a0 : Array Value} {Post : Outcome → State → Prop} {pc : Nat} {ls : Array Slot} {st rest : List Value} {own : String}
theorem CN.back {y : MethodName} {bytes : ByteArray} {ml : Nat} {ret : Option FieldType} {rm : Room} {as' : Array Value} {len Wd : Nat} {Q : Option Value → Heap → Prop} (hM : CN [] l Z y bytes ml ret rm as' h ws Q) (hZ : Z.Warmed39 vm0) (wc : (Cond.code y bytes ml ret).before a0 Z = true) (wz : (Cond.initialized y.cls).before a0 Z = true) (hf : rm.frames + 1 ≤ R.frames) (hl : Wd + (ml + 11) + rm.locals ≤ R.locals) :
    Back l R p e below (s.setVm vm0) args y len Wd (PreB R as' h rm.cells rm.slots) (PostB Z h ws Q rm.cells rm.slots) :=
  backOf (s := s.setVm vm0) (Q := fun v h' L => Fr Z.heap.size L ∧ Keep h h' ws ∧ Q v h') hM hZ wc wz hf hl
theorem CW.back {y : MethodName} {bytes : ByteArray} {ml : Nat} {ret : Option FieldType} {rm : Room} {as' : Array Value} {len Wd : Nat} {Q : Option Value → Heap → Prop} (hM : CW [] l Z EL y bytes ml ret rm as' h ws Q) (hZ : Z.Warmed39 vm0) (wc : (Cond.code y bytes ml ret).before a0 Z = true) (wz : (Cond.initialized y.cls).before a0 Z = true) (hf : rm.frames + 1 ≤ R.frames) (hl : Wd + (ml + 11) + rm.locals ≤ R.locals)
    (hEL : EW Z a0 EL) (H : CHv Z EL vm0 h) (hlt : ∀ x ∈ ws, x < h.size) (hsf : ∀ x ∈ ws, Safe Z EL vm0 h x) :
    BackS l R p e below (s.setVm vm0) args y len Wd (PreB R as' h rm.cells rm.slots) (PostBW Z EL vm0 h ws Q rm.cells rm.slots) :=
  BackS.of_freeW (bytes := bytes) (maxL := ml) (ret := ret) (E := fun _ first o t L k n => k = rm.cells ∧ n = rm.slots ∧ (∃ v, o = .returned v ∧ (Fr Z.heap.size L ∧ Keep h t.heap ws ∧ Q v t.heap)) ∧ CHr Z EL first.vm h t.vm t.heap) hM hf hl
    (fun m meth c A a Y hp => have hU : Z.Warmed39 A.U.vm := wtrans (s := s.setVm vm0) hZ Y.warmed
      ⟨by show (Cond.and _ .tt).before a A.U = true; rw [Cond.before_and, mv hU wc]; rfl, mv hU wc, mv hU wz, hp.2.2.1, hp.2.2.2⟩)
    (fun m meth c A a g mk Y hp => ⟨hp.1, wtrans (s := s.setVm vm0) hZ Y.warmed, hp.2.1, (CHv.at Y hZ hEL H).1, fun x hx => (CHv.at Y hZ hEL H).safe (hlt x hx) (hsf x hx)⟩) (fun _ _ _ _ _ _ _ _ _ => trivial)
    (fun _ _ _ _ ⟨v, L, h1, h2, h3, h4⟩ => ⟨L, _, _, h4, rfl, rfl, ⟨v, h1, h2⟩, h3⟩)
    (fun m meth c A a g mk v t L k n Y hp _ _ ⟨e1, e2, ⟨v', e3, e4⟩, e5⟩ => by
      cases e3; subst e1 e2
      exact ⟨L, e4, rfl, rfl, rfl, (CHv.at Y hZ hEL H).trans e5⟩)
theorem Wk.callS (W : Wk p l e R s m args below meth c Z EL h0 ws vm0 T h cells slots) (hx : p.tables.exec = Jvm.exec) (ho : Z.vm.findClass own = some m.cls) {index : Nat} {y : MethodName} {bytes : ByteArray} {ml : Nat} {ret : Option FieldType} (w1 : (Cond.methodLink own index y).before a0 Z = true) (w2 : (Cond.static y).before a0 Z = true) (w3 : (Cond.initialized y.cls).before a0 Z = true) (w4 : (Cond.code y bytes ml ret).before a0 Z = true) (hy : y.cls ≠ "java/lang/invoke/MethodHandle" ∧ y.cls ≠ "java/lang/invoke/VarHandle")
    {Wd mc ms : Nat} {as' : Array Value} {ws' : List Addr} {Q : Option Value → Heap → Prop} (hK : Back l R p e below (s.setVm vm0) args y 3 Wd (PreB R as' h mc ms) (PostB Z h ws' Q mc ms)) (hsz : ls.size = c.maxLocals) (argsL rest : List Value) (hlen : ∀ sig, parseMethodDescriptor y.desc = some sig → argsL.length = sig.parameters.length) (hst : st = argsL.reverse ++ rest) (has : argsL.toArray = as') (hW : (rest.map fun v => v.category).sum ≤ Wd) (pc' : Nat) (hd : decode c.code pc = .ok (.invokestatic index, 3)) (hp : pc + 3 = pc') (hc : cells + mc ≤ R.cells) (hs : slots + ms ≤ R.slots) (hws' : ∀ x ∈ ws', (x ∈ ws ∨ h0.size ≤ x) ∧ Safe Z EL vm0 h x)
    (K : ∀ (v : Option Value) (T' : State) (h' : Heap), Wk p l e R s m args below meth c Z EL h0 ws vm0 T' h' (cells + mc) (slots + ms) → Keep h h' ws' → CHr Z EL vm0 h vm0 h' → Q v h' → Goes p e below Post (T'.setTop (mkF m pc' ls (v.toList ++ rest)))) : Goes p e below Post (T.setTop (mkF m pc ls st)) := by
  subst hp hst
  have ho' := W.wown ho
  obtain ⟨locs, X, N, eh, K0, es, O, hws, hZ, ⟨k0, hS, hk⟩, C⟩ := W
  obtain ⟨v, _, ⟨T1, L1', k1, n1⟩, -, X1, ⟨L1, ⟨q1, q2, q3⟩, l1, y1, z1⟩, stp⟩ := Jvm.LawKit.callS X hx ho' (mvT (s := s.setVm vm0) hZ w1) (mvT (s := s.setVm vm0) hZ w2) (mvT (s := s.setVm vm0) hZ w3) (mvT (s := s.setVm vm0) hZ w4) hy hK (g := mkF m pc ls (argsL.reverse ++ rest)) rfl hsz hlen rfl (by show 2 * 0 + _ ≤ _; omega) hd (fun _ _ => ⟨has, eh, hc, hs⟩)
  dsimp only [Pt.U, Pt.locs, Pt.cells, Pt.slots] at X1 l1 y1 z1 stp q1 q2 q3
  subst l1 y1 z1
  have C1 := CHr.keep q2 (fun x hx => (hws' x hx).2) C.1
  exact Goes.go stp (K v T1 T1.heap ⟨_, X1, N.app q1, rfl, K0.trans q2 (fun x hx => (hws' x hx).1), es, O, hws, hZ, ⟨k0, hS, Nat.le_trans hk q2.1⟩, C.trans C1⟩ q2 C1 q3)
theorem Wk.special (W : Wk p l e R s m args below meth c Z EL h0 ws vm0 T h cells slots) (hx : p.tables.exec = Jvm.exec) (ho : Z.vm.findClass own = some m.cls) {index : Nat} {y : MethodName} (hy1 : y.name = "<init>") {bytes : ByteArray} {ml : Nat} (w1 : (Cond.methodLink own index y).before a0 Z = true) (w2 : (Cond.instanceMethod y).before a0 Z = true) (w4 : (Cond.code y bytes ml none).before a0 Z = true) (hy : y.cls ≠ "java/lang/invoke/MethodHandle" ∧ y.cls ≠ "java/lang/invoke/VarHandle")
    {Wd mc ms : Nat} {as' : Array Value} {ws' : List Addr} {Q : Option Value → Heap → Prop} (hK : Back l R p e below (s.setVm vm0) args y 3 Wd (PreB R as' h mc ms) (PostB Z h ws' Q mc ms)) (a : Addr) (hsz : ls.size = c.maxLocals) (argsL rest : List Value) (hlen : ∀ sig, parseMethodDescriptor y.desc = some sig → argsL.length = sig.parameters.length) (hst : st = argsL.reverse ++ .ref a :: rest) (has : (Value.ref a :: argsL).toArray = as') (hW : (rest.map fun v => v.category).sum ≤ Wd) (pc' : Nat) (hd : decode c.code pc = .ok (.invokespecial index, 3)) (hp : pc + 3 = pc') (hc : cells + mc ≤ R.cells) (hs : slots + ms ≤ R.slots) (hws' : ∀ x ∈ ws', (x ∈ ws ∨ h0.size ≤ x) ∧ Safe Z EL vm0 h x)
    (K : ∀ (v : Option Value) (T' : State) (h' : Heap), Wk p l e R s m args below meth c Z EL h0 ws vm0 T' h' (cells + mc) (slots + ms) → Keep h h' ws' → CHr Z EL vm0 h vm0 h' → Q v h' → Goes p e below Post (T'.setTop (mkF m pc' ls (v.toList ++ rest)))) : Goes p e below Post (T.setTop (mkF m pc ls st)) := by
  subst hp hst
  have ho' := W.wown ho
  obtain ⟨locs, X, N, eh, K0, es, O, hws, hZ, ⟨k0, hS, hk⟩, C⟩ := W
  obtain ⟨v, _, ⟨T1, L1', k1, n1⟩, -, X1, ⟨L1, ⟨q1, q2, q3⟩, l1, y1, z1⟩, stp⟩ := X.specialBack hx hy1 ho' (mvT (s := s.setVm vm0) hZ w1) (mvT (s := s.setVm vm0) hZ w2) (mvT (s := s.setVm vm0) hZ w4) hy hK (g := mkF m pc ls (argsL.reverse ++ .ref a :: rest)) rfl hsz (Steps.refl _) hlen rfl (by show 2 * 0 + _ ≤ _; omega) hd (fun _ _ => ⟨has, eh, hc, hs⟩)
  dsimp only [Pt.U, Pt.locs, Pt.cells, Pt.slots] at X1 l1 y1 z1 stp q1 q2 q3
  subst l1 y1 z1
  have C1 := CHr.keep q2 (fun x hx => (hws' x hx).2) C.1
  exact Goes.run stp (K v T1 T1.heap ⟨_, X1, N.app q1, rfl, K0.trans q2 (fun x hx => (hws' x hx).1), es, O, hws, hZ, ⟨k0, hS, Nat.le_trans hk q2.1⟩, C.trans C1⟩ q2 C1 q3)
theorem Wk.virtual (W : Wk p l e R s m args below meth c Z EL h0 ws vm0 T h cells slots) (hx : p.tables.exec = Jvm.exec) (ho : Z.vm.findClass own = some m.cls) {index : Nat} {C' : String} {y z : MethodName} (w1 : (Cond.methodLink own index y).before a0 Z = true) (w2 : (Cond.declares y).before a0 Z = true) (w3 : (Cond.selects C' y z).before a0 Z = true) (w4 : (Cond.instanceMethod z).before a0 Z = true) (nf : NotFace (s.setVm vm0) y) (hy : y.cls ≠ "java/lang/invoke/MethodHandle" ∧ y.cls ≠ "java/lang/invoke/VarHandle")
    {Wd mc ms : Nat} {as' : Array Value} {ws' : List Addr} {Q : Option Value → Heap → Prop} (hK : Back l R p e below (s.setVm vm0) args z 3 Wd (PreB R as' h mc ms) (PostB Z h ws' Q mc ms)) {a : Addr} (E : Exa Z h a C') (hsz : ls.size = c.maxLocals) (argsL rest : List Value) (hlen : ∀ sig, parseMethodDescriptor y.desc = some sig → argsL.length = sig.parameters.length) (hst : st = argsL.reverse ++ .ref a :: rest) (has : (Value.ref a :: argsL).toArray = as') (hW : (rest.map fun v => v.category).sum ≤ Wd) (pc' : Nat) (hd : decode c.code pc = .ok (.invokevirtual index, 3)) (hp : pc + 3 = pc') (hc : cells + mc ≤ R.cells) (hs : slots + ms ≤ R.slots) (hws' : ∀ x ∈ ws', (x ∈ ws ∨ h0.size ≤ x) ∧ Safe Z EL vm0 h x)
    (K : ∀ (v : Option Value) (T' : State) (h' : Heap), Wk p l e R s m args below meth c Z EL h0 ws vm0 T' h' (cells + mc) (slots + ms) → Keep h h' ws' → CHr Z EL vm0 h vm0 h' → Q v h' → Goes p e below Post (T'.setTop (mkF m pc' ls (v.toList ++ rest)))) : Goes p e below Post (T.setTop (mkF m pc ls st)) := by
  subst hp hst
  have ho' := W.wown ho
  obtain ⟨locs, X, N, eh, K0, es, O, hws, hZ, ⟨k0, hS, hk⟩, C⟩ := W
  obtain ⟨cq, kq, qa, qb, qc⟩ := isOf (s := s.setVm vm0) hZ eh E
  obtain ⟨v, _, ⟨T1, L1', k1, n1⟩, -, X1, ⟨L1, ⟨q1, q2, q3⟩, l1, y1, z1⟩, stp⟩ := X.virtualBack hx ho' (mvT (s := s.setVm vm0) hZ w1) (mvT (s := s.setVm vm0) hZ w2) nf (mvT (s := s.setVm vm0) hZ w3) (mvT (s := s.setVm vm0) hZ w4) hy hK qa qc (g := mkF m pc ls (argsL.reverse ++ .ref a :: rest)) rfl hsz (Steps.refl _) hlen rfl (by show 2 * 0 + _ ≤ _; omega) hd (fun _ _ => ⟨has, eh, hc, hs⟩)
  dsimp only [Pt.U, Pt.locs, Pt.cells, Pt.slots] at X1 l1 y1 z1 stp q1 q2 q3
  subst l1 y1 z1
  have C1 := CHr.keep q2 (fun x hx => (hws' x hx).2) C.1
  exact Goes.run stp (K v T1 T1.heap ⟨_, X1, N.app q1, rfl, K0.trans q2 (fun x hx => (hws' x hx).1), es, O, hws, hZ, ⟨k0, hS, Nat.le_trans hk q2.1⟩, C.trans C1⟩ q2 C1 q3)
theorem Wk.priv (W : Wk p l e R s m args below meth c Z EL h0 ws vm0 T h cells slots) (hx : p.tables.exec = Jvm.exec) (ho : Z.vm.findClass own = some m.cls) {index : Nat} {y : MethodName} {bytes : ByteArray} {ml : Nat} {ret : Option FieldType} (w1 : (Cond.methodLink own index y).before a0 Z = true) (w2 : (Cond.instanceMethod y).before a0 Z = true) (w3 : (Cond.selects y.cls y y).before a0 Z = true) (w5 : (Cond.privateMethod y).before a0 Z = true) (w4 : (Cond.code y bytes ml ret).before a0 Z = true) (hy : y.cls ≠ "java/lang/invoke/MethodHandle" ∧ y.cls ≠ "java/lang/invoke/VarHandle")
    {Wd mc ms : Nat} {as' : Array Value} {ws' : List Addr} {Q : Option Value → Heap → Prop} (hK : Back l R p e below (s.setVm vm0) args y 3 Wd (PreB R as' h mc ms) (PostB Z h ws' Q mc ms)) {a : Addr} {C' : String} (E : Exa Z h a C') (hsz : ls.size = c.maxLocals) (argsL rest : List Value) (hlen : ∀ sig, parseMethodDescriptor y.desc = some sig → argsL.length = sig.parameters.length) (hst : st = argsL.reverse ++ .ref a :: rest) (has : (Value.ref a :: argsL).toArray = as') (hW : (rest.map fun v => v.category).sum ≤ Wd) (pc' : Nat) (hd : decode c.code pc = .ok (.invokevirtual index, 3)) (hp : pc + 3 = pc') (hc : cells + mc ≤ R.cells) (hs : slots + ms ≤ R.slots) (hws' : ∀ x ∈ ws', (x ∈ ws ∨ h0.size ≤ x) ∧ Safe Z EL vm0 h x)
    (K : ∀ (v : Option Value) (T' : State) (h' : Heap), Wk p l e R s m args below meth c Z EL h0 ws vm0 T' h' (cells + mc) (slots + ms) → Keep h h' ws' → CHr Z EL vm0 h vm0 h' → Q v h' → Goes p e below Post (T'.setTop (mkF m pc' ls (v.toList ++ rest)))) : Goes p e below Post (T.setTop (mkF m pc ls st)) := by
  subst hp hst
  have ho' := W.wown ho
  obtain ⟨locs, X, N, eh, K0, es, O, hws, hZ, ⟨k0, hS, hk⟩, C⟩ := W
  obtain ⟨cq, hcq, hcv⟩ := E.cell
  obtain ⟨v, _, ⟨T1, L1', k1, n1⟩, -, X1, ⟨L1, ⟨q1, q2, q3⟩, l1, y1, z1⟩, stp⟩ := X.privateBack hx ho' (mvT (s := s.setVm vm0) hZ w1) (mvT (s := s.setVm vm0) hZ w2) (mvT (s := s.setVm vm0) hZ w3) (Cond.privateMethod_at (mvP (s := s.setVm vm0) hZ w5 (args := #[]))) (mvT (s := s.setVm vm0) hZ w4) hy hK (g := mkF m pc ls (argsL.reverse ++ .ref a :: rest)) rfl hsz (Steps.refl _) (by rw [eh]; exact hcq) hcv hlen rfl (by show 2 * 0 + _ ≤ _; omega) hd (fun _ _ => ⟨has, eh, hc, hs⟩)
  dsimp only [Pt.U, Pt.locs, Pt.cells, Pt.slots] at X1 l1 y1 z1 stp q1 q2 q3
  subst l1 y1 z1
  have C1 := CHr.keep q2 (fun x hx => (hws' x hx).2) C.1
  exact Goes.run stp (K v T1 T1.heap ⟨_, X1, N.app q1, rfl, K0.trans q2 (fun x hx => (hws' x hx).1), es, O, hws, hZ, ⟨k0, hS, Nat.le_trans hk q2.1⟩, C.trans C1⟩ q2 C1 q3)
theorem Wk.iface (W : Wk p l e R s m args below meth c Z EL h0 ws vm0 T h cells slots) (hx : p.tables.exec = Jvm.exec) (ho : Z.vm.findClass own = some m.cls) {index count : Nat} {C' : String} {y z : MethodName} (w1 : (Cond.methodLink own index y).before a0 Z = true) (w2 : (Cond.declares y).before a0 Z = true) (w3 : (Cond.interfaceMethod y.cls y.cls y.name y.desc).before a0 Z = true) (w4 : (Cond.selects C' y z).before a0 Z = true) (w5 : (Cond.instanceMethod z).before a0 Z = true) (w6 : (Cond.publicMethod z).before a0 Z = true) (w7 : (Cond.unhidden C' y.name y.desc).before a0 Z = true) (w8 : (Cond.castable C' y.cls).before a0 Z = true) (hI : ((Cond.interfaceMethod y.cls y.cls y.name y.desc).onTables && (Cond.interfaceMethod y.cls y.cls y.name y.desc).keepsFace) = true) (hy : y.cls ≠ "java/lang/invoke/MethodHandle" ∧ y.cls ≠ "java/lang/invoke/VarHandle")
    {Wd mc ms : Nat} {as' : Array Value} {ws' : List Addr} {Q : Option Value → Heap → Prop} (hK : Back l R p e below (s.setVm vm0) args z 5 Wd (PreB R as' h mc ms) (PostB Z h ws' Q mc ms)) {a : Addr} (E : Exa Z h a C') (hsz : ls.size = c.maxLocals) (argsL rest : List Value) (hlen : ∀ sig, parseMethodDescriptor y.desc = some sig → argsL.length = sig.parameters.length) (hst : st = argsL.reverse ++ .ref a :: rest) (has : (Value.ref a :: argsL).toArray = as') (hW : (rest.map fun v => v.category).sum ≤ Wd) (pc' : Nat) (hd : decode c.code pc = .ok (.invokeinterface index count, 5)) (hp : pc + 5 = pc') (hc : cells + mc ≤ R.cells) (hs : slots + ms ≤ R.slots) (hws' : ∀ x ∈ ws', (x ∈ ws ∨ h0.size ≤ x) ∧ Safe Z EL vm0 h x)
    (K : ∀ (v : Option Value) (T' : State) (h' : Heap), Wk p l e R s m args below meth c Z EL h0 ws vm0 T' h' (cells + mc) (slots + ms) → Keep h h' ws' → CHr Z EL vm0 h vm0 h' → Q v h' → Goes p e below Post (T'.setTop (mkF m pc' ls (v.toList ++ rest)))) : Goes p e below Post (T.setTop (mkF m pc ls st)) := by
  subst hp hst
  have ho' := W.wown ho
  obtain ⟨locs, X, N, eh, K0, es, O, hws, hZ, ⟨k0, hS, hk⟩, C⟩ := W
  obtain ⟨cq, kq, qa, qb, qc⟩ := isOf (s := s.setVm vm0) hZ eh E
  obtain ⟨v, _, ⟨T1, L1', k1, n1⟩, -, X1, ⟨L1, ⟨q1, q2, q3⟩, l1, y1, z1⟩, stp⟩ := X.interfaceBack hx ho' (mvT (s := s.setVm vm0) hZ w1) (mvT (s := s.setVm vm0) hZ w2) (mvT (s := s.setVm vm0) hZ w3 hI) (mvT (s := s.setVm vm0) hZ w4) (mvT (s := s.setVm vm0) hZ w5) (mvT (s := s.setVm vm0) hZ w6) (mvT (s := s.setVm vm0) hZ w7) (mvT (s := s.setVm vm0) hZ w8) hy hK qa qb qc (g := mkF m pc ls (argsL.reverse ++ .ref a :: rest)) rfl hsz (Steps.refl _) hlen rfl (by show 2 * 0 + _ ≤ _; omega) hd (fun _ _ => ⟨has, eh, hc, hs⟩)
  dsimp only [Pt.U, Pt.locs, Pt.cells, Pt.slots] at X1 l1 y1 z1 stp q1 q2 q3
  subst l1 y1 z1
  have C1 := CHr.keep q2 (fun x hx => (hws' x hx).2) C.1
  exact Goes.run stp (K v T1 T1.heap ⟨_, X1, N.app q1, rfl, K0.trans q2 (fun x hx => (hws' x hx).1), es, O, hws, hZ, ⟨k0, hS, Nat.le_trans hk q2.1⟩, C.trans C1⟩ q2 C1 q3)
theorem Wk.callSW (W : Wk p l e R s m args below meth c Z EL h0 ws vm0 T h cells slots) (hx : p.tables.exec = Jvm.exec) (ho : Z.vm.findClass own = some m.cls) {index : Nat} {y : MethodName} {bytes : ByteArray} {ml : Nat} {ret : Option FieldType} (w1 : (Cond.methodLink own index y).before a0 Z = true) (w2 : (Cond.static y).before a0 Z = true) (w3 : (Cond.initialized y.cls).before a0 Z = true) (w4 : (Cond.code y bytes ml ret).before a0 Z = true) (hy : y.cls ≠ "java/lang/invoke/MethodHandle" ∧ y.cls ≠ "java/lang/invoke/VarHandle")
    {Wd mc ms : Nat} {as' : Array Value} {ws' : List Addr} {Q : Option Value → Heap → Prop} (hK : BackS l R p e below (s.setVm vm0) args y 3 Wd (PreB R as' h mc ms) (PostBW Z EL vm0 h ws' Q mc ms)) (hsz : ls.size = c.maxLocals) (argsL rest : List Value) (hlen : ∀ sig, parseMethodDescriptor y.desc = some sig → argsL.length = sig.parameters.length) (hst : st = argsL.reverse ++ rest) (has : argsL.toArray = as') (hW : (rest.map fun v => v.category).sum ≤ Wd) (pc' : Nat) (hd : decode c.code pc = .ok (.invokestatic index, 3)) (hp : pc + 3 = pc') (hc : cells + mc ≤ R.cells) (hs : slots + ms ≤ R.slots) (hws' : ∀ x ∈ ws', (x ∈ ws ∨ h0.size ≤ x) ∧ Safe Z EL vm0 h x)
    (K : ∀ (v : Option Value) (vm1 : Vm) (T' : State) (h' : Heap), Wk p l e R s m args below meth c Z EL h0 ws vm1 T' h' (cells + mc) (slots + ms) → Keep h h' ws' → CHr Z EL vm0 h vm1 h' → Q v h' → Goes p e below Post (T'.setTop (mkF m pc' ls (v.toList ++ rest)))) : Goes p e below Post (T.setTop (mkF m pc ls st)) := by
  subst hp hst
  have ho' := W.wown ho
  obtain ⟨locs, X, N, eh, K0, es, O, hws, hZ, ⟨k0, hS, hk⟩, C⟩ := W
  obtain ⟨v, _, ⟨T1, L1', k1, n1⟩, -, X1, hS1, hg1, ⟨L1, ⟨q1, q2, q3⟩, l1, y1, z1, C1⟩, stp⟩ := callSS X hx ho' (mvT (s := s.setVm vm0) hZ w1) (mvT (s := s.setVm vm0) hZ w2) (mvT (s := s.setVm vm0) hZ w3) (mvT (s := s.setVm vm0) hZ w4) hy hK (g := mkF m pc ls (argsL.reverse ++ rest)) rfl hsz hlen rfl (by show 2 * 0 + _ ≤ _; omega) hd (fun _ _ => ⟨has, eh, hc, hs⟩)
  dsimp only [Pt.U, Pt.locs, Pt.cells, Pt.slots] at X1 l1 y1 z1 stp q1 q2 q3 hS1 hg1 C1
  subst l1 y1 z1
  exact Goes.run stp (K v T1.vm T1 T1.heap ⟨_, X1, N.app q1, rfl, K0.trans q2 (fun x hx => (hws' x hx).1), es, O, hws, State.Warmed39.trans (t := s.setVm vm0) hZ hS1.1, ⟨_, hS.trans hS1 (Nat.le_trans hk (by rw [← eh]; exact hg1)), Nat.le_refl _⟩, C.trans C1⟩ q2 C1 q3)
theorem Wk.specialW (W : Wk p l e R s m args below meth c Z EL h0 ws vm0 T h cells slots) (hx : p.tables.exec = Jvm.exec) (ho : Z.vm.findClass own = some m.cls) {index : Nat} {y : MethodName} (hy1 : y.name = "<init>") {bytes : ByteArray} {ml : Nat} (w1 : (Cond.methodLink own index y).before a0 Z = true) (w2 : (Cond.instanceMethod y).before a0 Z = true) (w4 : (Cond.code y bytes ml none).before a0 Z = true) (hy : y.cls ≠ "java/lang/invoke/MethodHandle" ∧ y.cls ≠ "java/lang/invoke/VarHandle")
    {Wd mc ms : Nat} {as' : Array Value} {ws' : List Addr} {Q : Option Value → Heap → Prop} (hK : BackS l R p e below (s.setVm vm0) args y 3 Wd (PreB R as' h mc ms) (PostBW Z EL vm0 h ws' Q mc ms)) (a : Addr) (hsz : ls.size = c.maxLocals) (argsL rest : List Value) (hlen : ∀ sig, parseMethodDescriptor y.desc = some sig → argsL.length = sig.parameters.length) (hst : st = argsL.reverse ++ .ref a :: rest) (has : (Value.ref a :: argsL).toArray = as') (hW : (rest.map fun v => v.category).sum ≤ Wd) (pc' : Nat) (hd : decode c.code pc = .ok (.invokespecial index, 3)) (hp : pc + 3 = pc') (hc : cells + mc ≤ R.cells) (hs : slots + ms ≤ R.slots) (hws' : ∀ x ∈ ws', (x ∈ ws ∨ h0.size ≤ x) ∧ Safe Z EL vm0 h x)
    (K : ∀ (v : Option Value) (vm1 : Vm) (T' : State) (h' : Heap), Wk p l e R s m args below meth c Z EL h0 ws vm1 T' h' (cells + mc) (slots + ms) → Keep h h' ws' → CHr Z EL vm0 h vm1 h' → Q v h' → Goes p e below Post (T'.setTop (mkF m pc' ls (v.toList ++ rest)))) : Goes p e below Post (T.setTop (mkF m pc ls st)) := by
  subst hp hst
  have ho' := W.wown ho
  obtain ⟨locs, X, N, eh, K0, es, O, hws, hZ, ⟨k0, hS, hk⟩, C⟩ := W
  obtain ⟨v, _, ⟨T1, L1', k1, n1⟩, -, X1, hS1, hg1, ⟨L1, ⟨q1, q2, q3⟩, l1, y1, z1, C1⟩, stp⟩ := X.specialBackS hx hy1 ho' (mvT (s := s.setVm vm0) hZ w1) (mvT (s := s.setVm vm0) hZ w2) (mvT (s := s.setVm vm0) hZ w4) hy hK (g := mkF m pc ls (argsL.reverse ++ .ref a :: rest)) rfl hsz (Steps.refl _) hlen rfl (by show 2 * 0 + _ ≤ _; omega) hd (fun _ _ => ⟨has, eh, hc, hs⟩)
  dsimp only [Pt.U, Pt.locs, Pt.cells, Pt.slots] at X1 l1 y1 z1 stp q1 q2 q3 hS1 hg1 C1
  subst l1 y1 z1
  exact Goes.run stp (K v T1.vm T1 T1.heap ⟨_, X1, N.app q1, rfl, K0.trans q2 (fun x hx => (hws' x hx).1), es, O, hws, State.Warmed39.trans (t := s.setVm vm0) hZ hS1.1, ⟨_, hS.trans hS1 (Nat.le_trans hk (by rw [← eh]; exact hg1)), Nat.le_refl _⟩, C.trans C1⟩ q2 C1 q3)
theorem Wk.virtualW (W : Wk p l e R s m args below meth c Z EL h0 ws vm0 T h cells slots) (hx : p.tables.exec = Jvm.exec) (ho : Z.vm.findClass own = some m.cls) {index : Nat} {C' : String} {y z : MethodName} (w1 : (Cond.methodLink own index y).before a0 Z = true) (w2 : (Cond.declares y).before a0 Z = true) (w3 : (Cond.selects C' y z).before a0 Z = true) (w4 : (Cond.instanceMethod z).before a0 Z = true) (nf : NotFace (s.setVm vm0) y) (hy : y.cls ≠ "java/lang/invoke/MethodHandle" ∧ y.cls ≠ "java/lang/invoke/VarHandle")
    {Wd mc ms : Nat} {as' : Array Value} {ws' : List Addr} {Q : Option Value → Heap → Prop} (hK : BackS l R p e below (s.setVm vm0) args z 3 Wd (PreB R as' h mc ms) (PostBW Z EL vm0 h ws' Q mc ms)) {a : Addr} (E : Exa Z h a C') (hsz : ls.size = c.maxLocals) (argsL rest : List Value) (hlen : ∀ sig, parseMethodDescriptor y.desc = some sig → argsL.length = sig.parameters.length) (hst : st = argsL.reverse ++ .ref a :: rest) (has : (Value.ref a :: argsL).toArray = as') (hW : (rest.map fun v => v.category).sum ≤ Wd) (pc' : Nat) (hd : decode c.code pc = .ok (.invokevirtual index, 3)) (hp : pc + 3 = pc') (hc : cells + mc ≤ R.cells) (hs : slots + ms ≤ R.slots) (hws' : ∀ x ∈ ws', (x ∈ ws ∨ h0.size ≤ x) ∧ Safe Z EL vm0 h x)
    (K : ∀ (v : Option Value) (vm1 : Vm) (T' : State) (h' : Heap), Wk p l e R s m args below meth c Z EL h0 ws vm1 T' h' (cells + mc) (slots + ms) → Keep h h' ws' → CHr Z EL vm0 h vm1 h' → Q v h' → Goes p e below Post (T'.setTop (mkF m pc' ls (v.toList ++ rest)))) : Goes p e below Post (T.setTop (mkF m pc ls st)) := by
  subst hp hst
  have ho' := W.wown ho
  obtain ⟨locs, X, N, eh, K0, es, O, hws, hZ, ⟨k0, hS, hk⟩, C⟩ := W
  obtain ⟨cq, kq, qa, qb, qc⟩ := isOf (s := s.setVm vm0) hZ eh E
  obtain ⟨v, _, ⟨T1, L1', k1, n1⟩, -, X1, hS1, hg1, ⟨L1, ⟨q1, q2, q3⟩, l1, y1, z1, C1⟩, stp⟩ := X.virtualBackS hx ho' (mvT (s := s.setVm vm0) hZ w1) (mvT (s := s.setVm vm0) hZ w2) nf (mvT (s := s.setVm vm0) hZ w3) (mvT (s := s.setVm vm0) hZ w4) hy hK qa qc (g := mkF m pc ls (argsL.reverse ++ .ref a :: rest)) rfl hsz (Steps.refl _) hlen rfl (by show 2 * 0 + _ ≤ _; omega) hd (fun _ _ => ⟨has, eh, hc, hs⟩)
  dsimp only [Pt.U, Pt.locs, Pt.cells, Pt.slots] at X1 l1 y1 z1 stp q1 q2 q3 hS1 hg1 C1
  subst l1 y1 z1
  exact Goes.run stp (K v T1.vm T1 T1.heap ⟨_, X1, N.app q1, rfl, K0.trans q2 (fun x hx => (hws' x hx).1), es, O, hws, State.Warmed39.trans (t := s.setVm vm0) hZ hS1.1, ⟨_, hS.trans hS1 (Nat.le_trans hk (by rw [← eh]; exact hg1)), Nat.le_refl _⟩, C.trans C1⟩ q2 C1 q3)
theorem Wk.privW (W : Wk p l e R s m args below meth c Z EL h0 ws vm0 T h cells slots) (hx : p.tables.exec = Jvm.exec) (ho : Z.vm.findClass own = some m.cls) {index : Nat} {y : MethodName} {bytes : ByteArray} {ml : Nat} {ret : Option FieldType} (w1 : (Cond.methodLink own index y).before a0 Z = true) (w2 : (Cond.instanceMethod y).before a0 Z = true) (w3 : (Cond.selects y.cls y y).before a0 Z = true) (w5 : (Cond.privateMethod y).before a0 Z = true) (w4 : (Cond.code y bytes ml ret).before a0 Z = true) (hy : y.cls ≠ "java/lang/invoke/MethodHandle" ∧ y.cls ≠ "java/lang/invoke/VarHandle")
    {Wd mc ms : Nat} {as' : Array Value} {ws' : List Addr} {Q : Option Value → Heap → Prop} (hK : BackS l R p e below (s.setVm vm0) args y 3 Wd (PreB R as' h mc ms) (PostBW Z EL vm0 h ws' Q mc ms)) {a : Addr} {C' : String} (E : Exa Z h a C') (hsz : ls.size = c.maxLocals) (argsL rest : List Value) (hlen : ∀ sig, parseMethodDescriptor y.desc = some sig → argsL.length = sig.parameters.length) (hst : st = argsL.reverse ++ .ref a :: rest) (has : (Value.ref a :: argsL).toArray = as') (hW : (rest.map fun v => v.category).sum ≤ Wd) (pc' : Nat) (hd : decode c.code pc = .ok (.invokevirtual index, 3)) (hp : pc + 3 = pc') (hc : cells + mc ≤ R.cells) (hs : slots + ms ≤ R.slots) (hws' : ∀ x ∈ ws', (x ∈ ws ∨ h0.size ≤ x) ∧ Safe Z EL vm0 h x)
    (K : ∀ (v : Option Value) (vm1 : Vm) (T' : State) (h' : Heap), Wk p l e R s m args below meth c Z EL h0 ws vm1 T' h' (cells + mc) (slots + ms) → Keep h h' ws' → CHr Z EL vm0 h vm1 h' → Q v h' → Goes p e below Post (T'.setTop (mkF m pc' ls (v.toList ++ rest)))) : Goes p e below Post (T.setTop (mkF m pc ls st)) := by
  subst hp hst
  have ho' := W.wown ho
  obtain ⟨locs, X, N, eh, K0, es, O, hws, hZ, ⟨k0, hS, hk⟩, C⟩ := W
  obtain ⟨cq, hcq, hcv⟩ := E.cell
  obtain ⟨v, _, ⟨T1, L1', k1, n1⟩, -, X1, hS1, hg1, ⟨L1, ⟨q1, q2, q3⟩, l1, y1, z1, C1⟩, stp⟩ := X.privateBackS hx ho' (mvT (s := s.setVm vm0) hZ w1) (mvT (s := s.setVm vm0) hZ w2) (mvT (s := s.setVm vm0) hZ w3) (Cond.privateMethod_at (mvP (s := s.setVm vm0) hZ w5 (args := #[]))) (mvT (s := s.setVm vm0) hZ w4) hy hK (g := mkF m pc ls (argsL.reverse ++ .ref a :: rest)) rfl hsz (Steps.refl _) (by rw [eh]; exact hcq) hcv hlen rfl (by show 2 * 0 + _ ≤ _; omega) hd (fun _ _ => ⟨has, eh, hc, hs⟩)
  dsimp only [Pt.U, Pt.locs, Pt.cells, Pt.slots] at X1 l1 y1 z1 stp q1 q2 q3 hS1 hg1 C1
  subst l1 y1 z1
  exact Goes.run stp (K v T1.vm T1 T1.heap ⟨_, X1, N.app q1, rfl, K0.trans q2 (fun x hx => (hws' x hx).1), es, O, hws, State.Warmed39.trans (t := s.setVm vm0) hZ hS1.1, ⟨_, hS.trans hS1 (Nat.le_trans hk (by rw [← eh]; exact hg1)), Nat.le_refl _⟩, C.trans C1⟩ q2 C1 q3)
theorem Wk.ifaceW (W : Wk p l e R s m args below meth c Z EL h0 ws vm0 T h cells slots) (hx : p.tables.exec = Jvm.exec) (ho : Z.vm.findClass own = some m.cls) {index count : Nat} {C' : String} {y z : MethodName} (w1 : (Cond.methodLink own index y).before a0 Z = true) (w2 : (Cond.declares y).before a0 Z = true) (w3 : (Cond.interfaceMethod y.cls y.cls y.name y.desc).before a0 Z = true) (w4 : (Cond.selects C' y z).before a0 Z = true) (w5 : (Cond.instanceMethod z).before a0 Z = true) (w6 : (Cond.publicMethod z).before a0 Z = true) (w7 : (Cond.unhidden C' y.name y.desc).before a0 Z = true) (w8 : (Cond.castable C' y.cls).before a0 Z = true) (hI : ((Cond.interfaceMethod y.cls y.cls y.name y.desc).onTables && (Cond.interfaceMethod y.cls y.cls y.name y.desc).keepsFace) = true) (hy : y.cls ≠ "java/lang/invoke/MethodHandle" ∧ y.cls ≠ "java/lang/invoke/VarHandle")
    {Wd mc ms : Nat} {as' : Array Value} {ws' : List Addr} {Q : Option Value → Heap → Prop} (hK : BackS l R p e below (s.setVm vm0) args z 5 Wd (PreB R as' h mc ms) (PostBW Z EL vm0 h ws' Q mc ms)) {a : Addr} (E : Exa Z h a C') (hsz : ls.size = c.maxLocals) (argsL rest : List Value) (hlen : ∀ sig, parseMethodDescriptor y.desc = some sig → argsL.length = sig.parameters.length) (hst : st = argsL.reverse ++ .ref a :: rest) (has : (Value.ref a :: argsL).toArray = as') (hW : (rest.map fun v => v.category).sum ≤ Wd) (pc' : Nat) (hd : decode c.code pc = .ok (.invokeinterface index count, 5)) (hp : pc + 5 = pc') (hc : cells + mc ≤ R.cells) (hs : slots + ms ≤ R.slots) (hws' : ∀ x ∈ ws', (x ∈ ws ∨ h0.size ≤ x) ∧ Safe Z EL vm0 h x)
    (K : ∀ (v : Option Value) (vm1 : Vm) (T' : State) (h' : Heap), Wk p l e R s m args below meth c Z EL h0 ws vm1 T' h' (cells + mc) (slots + ms) → Keep h h' ws' → CHr Z EL vm0 h vm1 h' → Q v h' → Goes p e below Post (T'.setTop (mkF m pc' ls (v.toList ++ rest)))) : Goes p e below Post (T.setTop (mkF m pc ls st)) := by
  subst hp hst
  have ho' := W.wown ho
  obtain ⟨locs, X, N, eh, K0, es, O, hws, hZ, ⟨k0, hS, hk⟩, C⟩ := W
  obtain ⟨cq, kq, qa, qb, qc⟩ := isOf (s := s.setVm vm0) hZ eh E
  obtain ⟨v, _, ⟨T1, L1', k1, n1⟩, -, X1, hS1, hg1, ⟨L1, ⟨q1, q2, q3⟩, l1, y1, z1, C1⟩, stp⟩ := X.interfaceBackS hx ho' (mvT (s := s.setVm vm0) hZ w1) (mvT (s := s.setVm vm0) hZ w2) (mvT (s := s.setVm vm0) hZ w3 hI) (mvT (s := s.setVm vm0) hZ w4) (mvT (s := s.setVm vm0) hZ w5) (mvT (s := s.setVm vm0) hZ w6) (mvT (s := s.setVm vm0) hZ w7) (mvT (s := s.setVm vm0) hZ w8) hy hK qa qb qc (g := mkF m pc ls (argsL.reverse ++ .ref a :: rest)) rfl hsz (Steps.refl _) hlen rfl (by show 2 * 0 + _ ≤ _; omega) hd (fun _ _ => ⟨has, eh, hc, hs⟩)
  dsimp only [Pt.U, Pt.locs, Pt.cells, Pt.slots] at X1 l1 y1 z1 stp q1 q2 q3 hS1 hg1 C1
  subst l1 y1 z1
  exact Goes.run stp (K v T1.vm T1 T1.heap ⟨_, X1, N.app q1, rfl, K0.trans q2 (fun x hx => (hws' x hx).1), es, O, hws, State.Warmed39.trans (t := s.setVm vm0) hZ hS1.1, ⟨_, hS.trans hS1 (Nat.le_trans hk (by rw [← eh]; exact hg1)), Nat.le_refl _⟩, C.trans C1⟩ q2 C1 q3)
theorem Wk.nf (W : Wk p l e R s m args below meth c Z EL h0 ws vm0 T h cells slots) {C' : String} {y : MethodName} (w3 : (Cond.selects C' y y).before a0 Z = true) : NotFace (s.setVm vm0) y := notFace_of_selects (args := #[]) (mvT (s := s.setVm vm0) W.warm w3)
end Calls
section Ends
variable {p : Program} {l : Launch} {e : Env} {R : Room} {s : State} {m : MethodId} {args : Array Value} {below : List Frame} {meth : Method} {c : Code} {Z : State} {EL : List (String × Nat)} {h0 : Heap} {ws : List Addr} {vm0 : Vm} {T : State} {h : Heap} {cells slots : Nat} {a0 : Array Value} {pc : Nat} {ls : Array Slot} {rest : List Value} {own : String} {mc ms : Nat} {Q : Option Value → Heap → Prop}
theorem CN.of_walk {wl : List Cond} {y : MethodName} {bytes : ByteArray} {ml : Nat} {ret : Option FieldType} {rm : Room} {as' : Array Value} (hpl : plainFor y = true) (O : Ext Z.heap h0) (hws : ∀ x ∈ ws, Z.heap.size ≤ x)
    (body : ∀ (p : Program) (e : Env) (s : State) (m : MethodId) (below : List Frame) (meth : Method) (c : Code) (T : State), Wk p l e rm s m as' below meth c Z [] h0 ws s.vm T h0 0 0 → p.tables.exec = Jvm.exec → c.code = bytes → c.maxLocals = ml → Z.vm.findClass y.cls = some m.cls → meth.name = y.name → meth.sig.returnType = ret → meth.locks = false →
      Goes p e below (PostN s Z h0 ws Q rm.cells rm.slots) (T.setTop (entryFrame m as' ml))) : CN wl l Z y bytes ml ret rm as' h0 ws Q := by
  refine MetFree.of_bodySF hpl hisR ?_
  intro p e s m args below meth c s₁ Bd hml hP hK
  obtain ⟨rfl, hZ, hh⟩ := hP
  have X0 : Stand p l e rm s m args below meth c s₁ [] 0 0 := Stand.of_body Bd
  have e0 : s₁.heap = h0 := by rw [← hh, Bd.state]; rfl
  have hfc := findClass_of_methodNamed Bd.named
  obtain ⟨s₂, o, h1, h2, h3, h4⟩ := body p e s m below meth c s₁ ⟨[], X0, Fr.nil _, e0, Keep.refl _ _, hh, O, hws, hZ, ⟨_, (State.WarmedH.refl s).since 0, Nat.zero_le _⟩, CHr.refl (fun p hp => by cases hp)⟩ Bd.exec Bd.bytes hml (by rw [← hZ.alike.findClass]; exact hfc) (name_of_methodNamed Bd.named Bd.method).1 Bd.returns Bd.notSynchronized
  exact ⟨s₂, o, h1, h2, h3, h4⟩
theorem CW.of_walk {wl : List Cond} {y : MethodName} {bytes : ByteArray} {ml : Nat} {ret : Option FieldType} {rm : Room} {as' : Array Value} (hpl : plainFor y = true) (O : Ext Z.heap h0) (hws : ∀ x ∈ ws, Z.heap.size ≤ x)
    (body : ∀ (p : Program) (e : Env) (s : State) (m : MethodId) (below : List Frame) (meth : Method) (c : Code) (T : State), Wk p l e rm s m as' below meth c Z EL h0 ws s.vm T h0 0 0 → (∀ x ∈ ws, Safe Z EL s.vm h0 x) → p.tables.exec = Jvm.exec → c.code = bytes → c.maxLocals = ml → Z.vm.findClass y.cls = some m.cls → meth.name = y.name → meth.sig.returnType = ret → meth.locks = false →
      Goes p e below (PostW s Z EL h0 ws Q rm.cells rm.slots) (T.setTop (entryFrame m as' ml))) : CW wl l Z EL y bytes ml ret rm as' h0 ws Q := by
  refine MetFree.of_bodySF hpl hisR ?_
  intro p e s m args below meth c s₁ Bd hml hP hK
  obtain ⟨rfl, hZ, hh, hC, hsf⟩ := hP
  have X0 : Stand p l e rm s m args below meth c s₁ [] 0 0 := Stand.of_body Bd
  have e0 : s₁.heap = h0 := by rw [← hh, Bd.state]; rfl
  have hfc := findClass_of_methodNamed Bd.named
  obtain ⟨s₂, o, h1, h2, h3, h4⟩ := body p e s m below meth c s₁ ⟨[], X0, Fr.nil _, e0, Keep.refl _ _, hh, O, hws, hZ, ⟨_, (State.WarmedH.refl s).since 0, Nat.zero_le _⟩, CHr.refl hC⟩ hsf Bd.exec Bd.bytes hml (by rw [← hZ.alike.findClass]; exact hfc) (name_of_methodNamed Bd.named Bd.method).1 Bd.returns Bd.notSynchronized
  exact ⟨s₂, o, h1, h2, h3, h4⟩
theorem Wk.retI (W : Wk p l e R s m args below meth c Z EL h0 ws s.vm T h cells slots) (hx : p.tables.exec = Jvm.exec) {z : Int32} (hret : meth.sig.returnType = some .int) (hlk : meth.locks = false) (hd : decode c.code pc = .ok (.ireturn, 1)) (hc : cells ≤ mc) (hs : slots ≤ ms) (q : Q (some (.int z)) h) : Goes p e below (PostN s Z h0 ws Q mc ms) (T.setTop (mkF m pc ls ((.int z) :: rest))) := by
  obtain ⟨locs, X, N, eh, K0, -⟩ := W
  have X : Stand p l e R s m args below meth c T locs cells slots := X
  obtain ⟨fs, hr, hrun, hended, hW, hsame⟩ := X.leave (v := some (.int z)) (fun q => by rw [hret] at q; cases q) hlk
  exact ⟨_, _, retOut X hx hret rfl (Or.inl ⟨rfl, Or.inl rfl, _, rfl⟩) hd hr, hrun, hended, _, _, rfl, ⟨N, by show Keep h0 T.heap ws; rw [eh]; exact K0, by show Q _ T.heap; rw [eh]; exact q⟩, ⟨_, rfl⟩, hW, hsame.mono hc hs⟩
theorem Wk.retIW (W : Wk p l e R s m args below meth c Z EL h0 ws vm0 T h cells slots) (hx : p.tables.exec = Jvm.exec) (hEL : EW Z a0 EL) {z : Int32} (hret : meth.sig.returnType = some .int) (hlk : meth.locks = false) (hd : decode c.code pc = .ok (.ireturn, 1)) (hc : cells ≤ mc) (hs : slots ≤ ms) (q : Q (some (.int z)) h) : Goes p e below (PostW s Z EL h0 ws Q mc ms) (T.setTop (mkF m pc ls ((.int z) :: rest))) := by
  have W0 := W.mono hc hs
  obtain ⟨locs, X, N, eh, K0, es, -, -, hZ, ⟨k0, hS, hk⟩, C⟩ := W0
  obtain ⟨fs, hr, hrun, hended, hRE⟩ := X.leaveW hS (by rw [eh]; exact hk) (v := some (.int z)) (fun q => by rw [hret] at q; cases q) hlk
  exact ⟨_, _, retOut X hx hret rfl (Or.inl ⟨rfl, Or.inl rfl, _, rfl⟩) hd hr, hrun, hended, _, _, rfl, ⟨N, by show Keep h0 T.heap ws; rw [eh]; exact K0, by show Q _ T.heap; rw [eh]; exact q⟩, by show CHr Z EL s.vm h0 T.vm T.heap; rw [eh]; exact C.trans (CHv.at X hZ hEL C.1), hRE⟩
theorem Wk.retJ (W : Wk p l e R s m args below meth c Z EL h0 ws s.vm T h cells slots) (hx : p.tables.exec = Jvm.exec) {z : Int64} (hret : meth.sig.returnType = some .long) (hlk : meth.locks = false) (hd : decode c.code pc = .ok (.lreturn, 1)) (hc : cells ≤ mc) (hs : slots ≤ ms) (q : Q (some (.long z)) h) : Goes p e below (PostN s Z h0 ws Q mc ms) (T.setTop (mkF m pc ls ((.long z) :: rest))) := by
  obtain ⟨locs, X, N, eh, K0, -⟩ := W
  have X : Stand p l e R s m args below meth c T locs cells slots := X
  obtain ⟨fs, hr, hrun, hended, hW, hsame⟩ := X.leave (v := some (.long z)) (fun q => by rw [hret] at q; cases q) hlk
  exact ⟨_, _, retOut X hx hret rfl (Or.inr (Or.inl ⟨rfl, rfl, _, rfl⟩)) hd hr, hrun, hended, _, _, rfl, ⟨N, by show Keep h0 T.heap ws; rw [eh]; exact K0, by show Q _ T.heap; rw [eh]; exact q⟩, ⟨_, rfl⟩, hW, hsame.mono hc hs⟩
theorem Wk.retJW (W : Wk p l e R s m args below meth c Z EL h0 ws vm0 T h cells slots) (hx : p.tables.exec = Jvm.exec) (hEL : EW Z a0 EL) {z : Int64} (hret : meth.sig.returnType = some .long) (hlk : meth.locks = false) (hd : decode c.code pc = .ok (.lreturn, 1)) (hc : cells ≤ mc) (hs : slots ≤ ms) (q : Q (some (.long z)) h) : Goes p e below (PostW s Z EL h0 ws Q mc ms) (T.setTop (mkF m pc ls ((.long z) :: rest))) := by
  have W0 := W.mono hc hs
  obtain ⟨locs, X, N, eh, K0, es, -, -, hZ, ⟨k0, hS, hk⟩, C⟩ := W0
  obtain ⟨fs, hr, hrun, hended, hRE⟩ := X.leaveW hS (by rw [eh]; exact hk) (v := some (.long z)) (fun q => by rw [hret] at q; cases q) hlk
  exact ⟨_, _, retOut X hx hret rfl (Or.inr (Or.inl ⟨rfl, rfl, _, rfl⟩)) hd hr, hrun, hended, _, _, rfl, ⟨N, by show Keep h0 T.heap ws; rw [eh]; exact K0, by show Q _ T.heap; rw [eh]; exact q⟩, by show CHr Z EL s.vm h0 T.vm T.heap; rw [eh]; exact C.trans (CHv.at X hZ hEL C.1), hRE⟩
theorem Wk.retA (W : Wk p l e R s m args below meth c Z EL h0 ws s.vm T h cells slots) (hx : p.tables.exec = Jvm.exec) {t : FieldType} {z : Value} (ht : t.isReference = true) (hz : z.isRef = true) (hret : meth.sig.returnType = some t) (hlk : meth.locks = false) (hd : decode c.code pc = .ok (.areturn, 1)) (hc : cells ≤ mc) (hs : slots ≤ ms) (q : Q (some z) h) : Goes p e below (PostN s Z h0 ws Q mc ms) (T.setTop (mkF m pc ls (z :: rest))) := by
  obtain ⟨locs, X, N, eh, K0, -⟩ := W
  have X : Stand p l e R s m args below meth c T locs cells slots := X
  obtain ⟨fs, hr, hrun, hended, hW, hsame⟩ := X.leave (v := some z) (fun q => by rw [hret] at q; cases q) hlk
  exact ⟨_, _, retOut X hx hret (by cases t <;> simp [FieldType.isReference] at ht <;> cases z <;> simp [Value.isRef] at hz <;> rfl) (Or.inr (Or.inr (Or.inr (Or.inr ⟨rfl, ht, hz⟩)))) hd hr, hrun, hended, _, _, rfl, ⟨N, by show Keep h0 T.heap ws; rw [eh]; exact K0, by show Q _ T.heap; rw [eh]; exact q⟩, ⟨_, rfl⟩, hW, hsame.mono hc hs⟩
theorem Wk.retAW (W : Wk p l e R s m args below meth c Z EL h0 ws vm0 T h cells slots) (hx : p.tables.exec = Jvm.exec) (hEL : EW Z a0 EL) {t : FieldType} {z : Value} (ht : t.isReference = true) (hz : z.isRef = true) (hret : meth.sig.returnType = some t) (hlk : meth.locks = false) (hd : decode c.code pc = .ok (.areturn, 1)) (hc : cells ≤ mc) (hs : slots ≤ ms) (q : Q (some z) h) : Goes p e below (PostW s Z EL h0 ws Q mc ms) (T.setTop (mkF m pc ls (z :: rest))) := by
  have W0 := W.mono hc hs
  obtain ⟨locs, X, N, eh, K0, es, -, -, hZ, ⟨k0, hS, hk⟩, C⟩ := W0
  obtain ⟨fs, hr, hrun, hended, hRE⟩ := X.leaveW hS (by rw [eh]; exact hk) (v := some z) (fun q => by rw [hret] at q; cases q) hlk
  exact ⟨_, _, retOut X hx hret (by cases t <;> simp [FieldType.isReference] at ht <;> cases z <;> simp [Value.isRef] at hz <;> rfl) (Or.inr (Or.inr (Or.inr (Or.inr ⟨rfl, ht, hz⟩)))) hd hr, hrun, hended, _, _, rfl, ⟨N, by show Keep h0 T.heap ws; rw [eh]; exact K0, by show Q _ T.heap; rw [eh]; exact q⟩, by show CHr Z EL s.vm h0 T.vm T.heap; rw [eh]; exact C.trans (CHv.at X hZ hEL C.1), hRE⟩
theorem Wk.retN (W : Wk p l e R s m args below meth c Z EL h0 ws s.vm T h cells slots) (hx : p.tables.exec = Jvm.exec) {z : Int32} (z' : Int32) {t : FieldType} (hn : nar t z = z') (ht : t = .boolean ∨ t = .byte ∨ t = .char ∨ t = .short) (hret : meth.sig.returnType = some t) (hlk : meth.locks = false) (hd : decode c.code pc = .ok (.ireturn, 1)) (hc : cells ≤ mc) (hs : slots ≤ ms) (q : Q (some (.int z')) h) : Goes p e below (PostN s Z h0 ws Q mc ms) (T.setTop (mkF m pc ls (.int z :: rest))) := by
  subst hn
  obtain ⟨locs, X, N, eh, K0, -⟩ := W
  have X : Stand p l e R s m args below meth c T locs cells slots := X
  obtain ⟨fs, hr, hrun, hended, hW, hsame⟩ := X.leave (v := some (.int (nar t z))) (fun q => by rw [hret] at q; cases q) hlk
  exact ⟨_, _, RoadKit.retN X hx hret ht hd hr, hrun, hended, _, _, rfl, ⟨N, by show Keep h0 T.heap ws; rw [eh]; exact K0, by show Q _ T.heap; rw [eh]; exact q⟩, ⟨_, rfl⟩, hW, hsame.mono hc hs⟩
theorem Wk.retNW (W : Wk p l e R s m args below meth c Z EL h0 ws vm0 T h cells slots) (hx : p.tables.exec = Jvm.exec) (hEL : EW Z a0 EL) {z : Int32} (z' : Int32) {t : FieldType} (hn : nar t z = z') (ht : t = .boolean ∨ t = .byte ∨ t = .char ∨ t = .short) (hret : meth.sig.returnType = some t) (hlk : meth.locks = false) (hd : decode c.code pc = .ok (.ireturn, 1)) (hc : cells ≤ mc) (hs : slots ≤ ms) (q : Q (some (.int z')) h) : Goes p e below (PostW s Z EL h0 ws Q mc ms) (T.setTop (mkF m pc ls (.int z :: rest))) := by
  subst hn
  have W0 := W.mono hc hs
  obtain ⟨locs, X, N, eh, K0, es, -, -, hZ, ⟨k0, hS, hk⟩, C⟩ := W0
  obtain ⟨fs, hr, hrun, hended, hRE⟩ := X.leaveW hS (by rw [eh]; exact hk) (v := some (.int (nar t z))) (fun q => by rw [hret] at q; cases q) hlk
  exact ⟨_, _, RoadKit.retN X hx hret ht hd hr, hrun, hended, _, _, rfl, ⟨N, by show Keep h0 T.heap ws; rw [eh]; exact K0, by show Q _ T.heap; rw [eh]; exact q⟩, by show CHr Z EL s.vm h0 T.vm T.heap; rw [eh]; exact C.trans (CHv.at X hZ hEL C.1), hRE⟩
theorem Wk.retV (W : Wk p l e R s m args below meth c Z EL h0 ws s.vm T h cells slots) (hx : p.tables.exec = Jvm.exec) (hret : meth.sig.returnType = none) (hlk : meth.locks = false) (hd : decode c.code pc = .ok (.return_, 1)) (hc : cells ≤ mc) (hs : slots ≤ ms) (q : Q none h) : Goes p e below (PostN s Z h0 ws Q mc ms) (T.setTop (mkF m pc ls [])) := by
  obtain ⟨locs, X, N, eh, K0, -⟩ := W
  have X : Stand p l e R s m args below meth c T locs cells slots := X
  obtain ⟨fs, hr, hrun, hended, hW, hsame⟩ := X.leave (v := none) (fun _ => rfl) hlk
  exact ⟨_, _, X.returnOut hx hret hd hr, hrun, hended, _, _, rfl, ⟨N, by show Keep h0 T.heap ws; rw [eh]; exact K0, by show Q _ T.heap; rw [eh]; exact q⟩, ⟨_, rfl⟩, hW, hsame.mono hc hs⟩
theorem Wk.retVW (W : Wk p l e R s m args below meth c Z EL h0 ws vm0 T h cells slots) (hx : p.tables.exec = Jvm.exec) (hEL : EW Z a0 EL) (hret : meth.sig.returnType = none) (hlk : meth.locks = false) (hd : decode c.code pc = .ok (.return_, 1)) (hc : cells ≤ mc) (hs : slots ≤ ms) (q : Q none h) : Goes p e below (PostW s Z EL h0 ws Q mc ms) (T.setTop (mkF m pc ls [])) := by
  have W0 := W.mono hc hs
  obtain ⟨locs, X, N, eh, K0, es, -, -, hZ, ⟨k0, hS, hk⟩, C⟩ := W0
  obtain ⟨fs, hr, hrun, hended, hRE⟩ := X.leaveW hS (by rw [eh]; exact hk) (v := none) (fun _ => rfl) hlk
  exact ⟨_, _, X.returnOut hx hret hd hr, hrun, hended, _, _, rfl, ⟨N, by show Keep h0 T.heap ws; rw [eh]; exact K0, by show Q _ T.heap; rw [eh]; exact q⟩, by show CHr Z EL s.vm h0 T.vm T.heap; rw [eh]; exact C.trans (CHv.at X hZ hEL C.1), hRE⟩
end Ends
end Jvm.OwnKit
namespace Jvm.OwnKit
open Sem ClassFile Op Lib Jvm.Stand Jvm.Free Jvm.LawKit Jvm.RoadKit
theorem neA {x y : Addr} (h : @LT.lt Nat _ x y ∨ @LT.lt Nat _ y x) : x ≠ y := h.elim (fun q => Nat.ne_of_lt q) (fun q => Nat.ne_of_gt q)
theorem ltN {a : Addr} {n : Nat} (h : a < n) : @LT.lt Nat _ a n := h
theorem ltA {a : Addr} {n : Nat} (h : @LT.lt Nat _ a n) : a < n := h
theorem all1 {a : Addr} {n : Nat} (h : @LT.lt Nat _ a n) : ∀ x ∈ [a], x < n := fun x hx => by cases List.mem_singleton.mp hx; exact h
theorem neN {x y : Addr} (h : x ≠ y) : @LT.lt Nat _ x y ∨ @LT.lt Nat _ y x := Nat.lt_or_gt_of_ne h
theorem cat_int (x : Int32) : (Value.int x).category = 1 := rfl
theorem cat_long (x : Int64) : (Value.long x).category = 2 := rfl
theorem cat_refv (x : Addr) : (Value.ref x).category = 1 := rfl
theorem cat_null : Value.null.category = 1 := rfl
theorem ref_nar {t : FieldType} {v : Value} (ht : t.isReference = true) (hv : v.isRef = true) : narrow t v = v ∧ fits t v = true := by
  cases t <;> simp [FieldType.isReference] at ht <;> cases v <;> simp [Value.isRef] at hv <;> exact ⟨rfl, rfl⟩
theorem bool_nar {x : Int32} (h : x = 0 ∨ x = 1) : narrow .boolean (.int x) = .int x ∧ fits .boolean (.int x) = true := by rcases h with rfl | rfl <;> exact ⟨rfl, rfl⟩
theorem cat_ref {v : Value} (h : v.isRef = true) : v.category = 1 := by cases v <;> simp [Value.isRef] at h <;> rfl
theorem one_ref {v : Value} (h : v.isRef = true) : Slot.val v = .unset ∨ ∃ w, Slot.val v = .val w ∧ w.category = 1 := Or.inr ⟨v, rfl, cat_ref h⟩
/-- an int of Java's type char, below 256 -/
def C8 (x : Int32) : Prop := ¬ x < 0 ∧ ¬ (255 : Int32) < x
/-- an int of Java's type char -/
def C16 (x : Int32) : Prop := ¬ x < 0 ∧ ¬ (65535 : Int32) < x
theorem i32lt {x y : Int32} : x < y ↔ x.toInt < y.toInt := Int32.lt_iff_toInt_lt
theorem i32nat {y : Int32} (h : y.toBitVec.toNat < 2 ^ 31) : y.toInt = (y.toBitVec.toNat : Int) := by
  have : y.toInt = y.toBitVec.toInt := rfl
  rw [this, BitVec.toInt_eq_toNat_cond, if_pos (by omega)]
theorem C16.nat {x : Int32} (h : C16 x) : x.toBitVec.toNat < 65536 := by
  obtain ⟨h1, h2⟩ := h
  rw [i32lt] at h1 h2
  have e0 : (0 : Int32).toInt = 0 := rfl
  have e1 : (65535 : Int32).toInt = 65535 := rfl
  have : x.toInt = x.toBitVec.toInt := rfl
  have hb := x.toBitVec.isLt
  rw [this, BitVec.toInt_eq_toNat_cond] at h1 h2
  by_cases hc : 2 * x.toBitVec.toNat < 2 ^ 32
  · rw [if_pos hc] at h2; omega
  · rw [if_neg hc] at h1; omega
theorem C16.of {x : Int32} (h : x.toBitVec.toNat < 65536) : C16 x := by
  have e := i32nat (y := x) (by omega)
  constructor
  · rw [i32lt, e]; have e0 : (0 : Int32).toInt = 0 := rfl
    omega
  · rw [i32lt, e]; have e1 : (65535 : Int32).toInt = 65535 := rfl
    omega
theorem C8.of {x : Int32} (h : x.toBitVec.toNat < 256) : C8 x := by
  have e := i32nat (y := x) (by omega)
  constructor
  · rw [i32lt, e]; have e0 : (0 : Int32).toInt = 0 := rfl
    omega
  · rw [i32lt, e]; have e1 : (255 : Int32).toInt = 255 := rfl
    omega
theorem C8.up {x : Int32} (h : C8 x) : C16 x := ⟨h.1, fun q => h.2 (by rw [i32lt] at q ⊢; have e1 : (65535 : Int32).toInt = 65535 := rfl; have e2 : (255 : Int32).toInt = 255 := rfl; omega)⟩
theorem i2c_nat (x : Int32) : (i2c x).toBitVec.toNat = x.toBitVec.toNat % 65536 := by
  have h : (i2c x).toBitVec = (x.toBitVec.setWidth 16).setWidth 32 := rfl
  rw [h, BitVec.toNat_setWidth, BitVec.toNat_setWidth]
  omega
theorem i2c_c16 (x : Int32) : C16 (i2c x) := C16.of (by rw [i2c_nat]; omega)
theorem i2c_id {x : Int32} (h : C16 x) : i2c x = x := by
  apply Int32.toBitVec_inj.mp
  apply BitVec.eq_of_toNat_eq
  rw [i2c_nat]
  have := h.nat
  omega
theorem nar_c16 {x : Int32} (h : C16 x) : nar .char x = x := i2c_id h
theorem and_nat (x : Int32) (k : Nat) (hk : k < 2 ^ 31) : (x &&& Int32.ofNat k).toBitVec.toNat ≤ k := by
  have e : (x &&& Int32.ofNat k).toBitVec.toNat = x.toBitVec.toNat &&& (Int32.ofNat k).toBitVec.toNat := by simp [Int32.toBitVec_and, BitVec.toNat_and]
  have e2 : (Int32.ofNat k).toBitVec.toNat = k := by
    show (BitVec.ofNat 32 k).toNat = k
    rw [BitVec.toNat_ofNat]; omega
  rw [e, e2]; exact Nat.and_le_right
theorem and255 (x : Int32) : C8 (x &&& 255) := C8.of (Nat.lt_of_le_of_lt (and_nat x 255 (by decide)) (by decide))
theorem i2c_255 (x : Int32) : i2c (x &&& 255) = x &&& 255 := i2c_id (and255 x).up
theorem i2c_c8 (x : Int32) : C8 (i2c (x &&& 255)) := by rw [i2c_255]; exact and255 x
theorem ala {α : Type} {P : α → Prop} {y : α} {L : List α} (q : P y) (r : ∀ x ∈ L, P x) : ∀ x ∈ y :: L, P x := fun x z => (List.mem_cons.mp z).elim (fun u => u ▸ q) (r x)
theorem ala0 {α : Type} {P : α → Prop} : ∀ x ∈ ([] : List α), P x := fun _ q => nomatch q
/-- x holds no byte[] -/
def NB (Z : State) (h : Heap) (x : Addr) : Prop := ∀ c : Cell, ¬ Arr Z h x c .byte
theorem NB.exa {Z : State} {h : Heap} {x : Addr} {C : String} {n : Nat} {a0 : Array Value} (E : Exa Z h x C) (w : (Cond.instantiable C n).before a0 Z = true) : NB Z h x := fun c A => RoadKit.ne_arr E w A rfl
theorem NB.arr {Z : State} {h : Heap} {x : Addr} {cl : Cell} {ty : FieldType} (A : Arr Z h x cl ty) (ht : ty ≠ .byte) : NB Z h x := fun c B => by
  cases A.1.symm.trans B.1
  obtain ⟨-, k, h1, comp, h2⟩ := A.2.1
  obtain ⟨-, k', g1, comp', g2⟩ := B.2.1
  cases h1.symm.trans g1
  rw [h2] at g2
  injection g2 with _ e
  exact ht e
theorem NB.arv {Z : State} {h : Heap} {x : Addr} {k : ClassId} {ty : FieldType} {n : Int32} {vs : List Value} {d : Value} (V : Arv Z h x k ty n vs d) (ht : ty ≠ .byte) : NB Z h x := by
  obtain ⟨c, A, -⟩ := V; exact NB.arr A ht
end Jvm.OwnKit
namespace Jvm.OwnKit
open Sem ClassFile Op Lib Jvm.Stand Jvm.Free Jvm.LawKit Jvm.RoadKit
theorem safe0 {Z : State} {vm : Vm} {h : Heap} {x : Addr} : Safe Z [] vm h x := fun B => by obtain ⟨p, hp, -⟩ := B; cases hp
theorem inr1 {a : Addr} {n : Nat} (h : @LE.le Nat _ n a) {ws : List Addr} : ∀ x ∈ [a], x ∈ ws ∨ @LE.le Nat _ n x := fun x hx => by cases List.mem_singleton.mp hx; exact Or.inr h
theorem hws1 {Z : State} {EL : List (String × Nat)} {vm : Vm} {h : Heap} {a : Addr} {n : Nat} {ws : List Addr} (q : a ∈ ws ∨ @LE.le Nat _ n a) (S : Safe Z EL vm h a) : ∀ x ∈ [a], (x ∈ ws ∨ @LE.le Nat _ n x) ∧ Safe Z EL vm h x := fun x hx => by cases List.mem_singleton.mp hx; exact ⟨q, S⟩
theorem i2b_i2b (x : Int32) : nar .byte (i2b x) = i2b x := by
  show ((x.toInt8.toInt32).toInt8).toInt32 = x.toInt8.toInt32
  rw [Int8.toInt8_toInt32]
end Jvm.OwnKit
namespace Jvm.OwnKit
open Sem ClassFile Op Lib Jvm.Stand Jvm.Free Jvm.LawKit Jvm.RoadKit
/-- a class right under the root is no subclass of a class that can be made an object of -/
theorem not_sub {Z : State} {a0 : Array Value} {C O K : String} {n : Nat} (w : (Cond.superclass C O).before a0 Z = true) (wo : (Cond.noSuperclass O).before a0 Z = true) (wi : (Cond.instantiable K n).before a0 Z = true) (h1 : C ≠ K) (h2 : O ≠ K) : ∃ c t, Z.vm.findClass C = some c ∧ Z.vm.findClass K = some t ∧ Z.vm.assignable c t = false := by
  obtain ⟨t, kt, g1, g2, g3, g4, -⟩ := Cond.instantiable_spec wi
  obtain ⟨o, ko, o1, o2, o3, -, -⟩ := Cond.noSuperclass_spec wo
  have neO := ids_ne o1 g1 h2
  have N0 : NS Z O K := by
    refine ⟨o, t, o1, g1, fun fuel => ?_⟩
    cases fuel with
    | zero => rfl
    | succ f => simp [Vm.isSubclassAux, neO, o2, o3]
  obtain ⟨c, t', c1, c2, c3⟩ := NS.step w N0 h1
  cases g1.symm.trans c2
  obtain ⟨p, k, kp, q1, q2, q3, q4, q5, -, q7⟩ := Cond.superclass_spec c1 w
  have ne := ids_ne c1 g1 h1
  have hi : kt.isInterface = false := by
    cases hq : kt.isInterface with
    | false => rfl
    | true => rw [hq] at g4; cases g4
  refine ⟨c, t, c1, g1, ?_⟩
  show Z.vm.assignableAux (255 + 1) c t = false
  simp [Vm.assignableAux, ne, q2, g2, q5, g3, hi, Vm.isSubclass, c3]
end Jvm.OwnKit
namespace Jvm.OwnKit
open Sem ClassFile Op Lib Jvm.Stand Jvm.Free Jvm.LawKit Jvm.RoadKit
theorem ofn {i : Nat} (h : i ≤ 4000) : (Int32.ofNat i).toInt = (i : Int) := Int32.toInt_ofNat_of_lt (by omega)
theorem ofn_lt {i L : Nat} (hl : L ≤ 4000) (h : i < L) : Int32.ofNat i < Int32.ofNat L := by rw [i32lt, ofn (by omega), ofn hl]; omega
theorem ofn_nlt {i L : Nat} (hl : i ≤ 4000) (h : L ≤ i) : ¬ Int32.ofNat i < Int32.ofNat L := by rw [i32lt, ofn hl, ofn (by omega)]; omega
theorem ofn_n0 {i : Nat} (hl : i ≤ 4000) : ¬ Int32.ofNat i < 0 := by
  rw [i32lt, ofn hl]; have e : (0 : Int32).toInt = 0 := rfl
  omega
theorem ofn_clamp {i : Nat} (hl : i ≤ 4000) : (Int32.ofNat i).toNatClampNeg = i := by
  show (Int32.ofNat i).toInt.toNat = i
  rw [ofn hl]; rfl
theorem lt_of_ofn {i L : Nat} (hi : i ≤ 4000) (hl : L ≤ 4000) (h : Int32.ofNat i < Int32.ofNat L) : i < L := by
  rw [i32lt, ofn hi, ofn hl] at h; omega
theorem ofn_succ (i : Nat) : (Int32.ofNat i) + (1 : Int32) = Int32.ofNat (i + 1) := (Int32.ofNat_add i 1).symm
theorem ofn_snoc (L : List Int32) (c : Int32) : Int32.ofNat L.length + (1 : Int32) = Int32.ofNat (L ++ [c]).length := by
  rw [ofn_succ]; simp
theorem ofn_snoc2 (L : List Int32) (c d : Int32) : Int32.ofNat L.length + (2 : Int32) = Int32.ofNat ((L ++ [c]) ++ [d]).length := by
  rw [show (2 : Int32) = Int32.ofNat 2 from rfl, ← Int32.ofNat_add]; simp
theorem ofn_pos {L : Nat} (hl : L ≤ 4000) (h : ¬ (0 : Int32) < Int32.ofNat L) : L = 0 := by
  rw [i32lt, ofn hl] at h; have e : (0 : Int32).toInt = 0 := rfl
  omega
theorem map_get {bs : List Int32} {i : Nat} (hl : bs.length ≤ 4000) (h : i < bs.length) : (bs.map Value.int).getD (Int32.ofNat i).toNatClampNeg (.int 0) = .int (bs.getD i 0) := by
  rw [ofn_clamp (by omega)]
  simp [List.getD_eq_getElem?_getD, h]
theorem nall0 {P : Nat → Prop} : ∀ i, i < 0 → P i := fun _ q => absurd q (Nat.not_lt_zero _)
theorem nallS {P : Nat → Prop} {k : Nat} (h : ∀ i, i < k → P i) (q : P k) : ∀ i, i < k + 1 → P i := fun i hi => by
  rcases Nat.lt_succ_iff_lt_or_eq.mp hi with r | r
  · exact h i r
  · exact r ▸ q
theorem c8_nat {x : Int32} (h : C8 x) : x.toBitVec.toNat < 256 := by
  obtain ⟨h1, h2⟩ := h
  rw [i32lt] at h1 h2
  have e0 : (0 : Int32).toInt = 0 := rfl
  have e1 : (255 : Int32).toInt = 255 := rfl
  have : x.toInt = x.toBitVec.toInt := rfl
  have hb := x.toBitVec.isLt
  rw [this, BitVec.toInt_eq_toNat_cond] at h1 h2
  by_cases hc : 2 * x.toBitVec.toNat < 2 ^ 32
  · rw [if_pos hc] at h2; omega
  · rw [if_neg hc] at h1; omega
theorem i2b_inj {x y : Int32} (hx : C8 x) (hy : C8 y) (h : i2b x = i2b y) : x = y := by
  have h' : x.toInt8 = y.toInt8 := by
    have q := congrArg Int32.toInt8 h
    simpa [i2b] using q
  have q : (x.toBitVec.signExtend 8) = (y.toBitVec.signExtend 8) := congrArg Int8.toBitVec h'
  have q2 := congrArg BitVec.toNat q
  have ex : ∀ z : BitVec 32, (z.signExtend 8).toNat = z.toNat % 256 := fun z => by
    rw [BitVec.signExtend_eq_setWidth_of_le _ (by decide), BitVec.toNat_setWidth]
  rw [ex, ex] at q2
  have h1 := c8_nat hx
  have h2 := c8_nat hy
  apply Int32.toBitVec_inj.mp
  apply BitVec.eq_of_toNat_eq
  omega
theorem getD_map_i2b (cs : List Int32) (i : Nat) : (cs.map i2b).getD i 0 = i2b (cs.getD i 0) := by
  simp only [List.getD_eq_getElem?_getD, List.getElem?_map]
  cases cs[i]? <;> rfl
theorem c8_getD {cs : List Int32} (h8 : ∀ c ∈ cs, C8 c) (i : Nat) : C8 (cs.getD i 0) := by
  rw [List.getD_eq_getElem?_getD]
  cases q : cs[i]? with
  | none => exact C8.of (by decide)
  | some c => exact h8 c (List.mem_of_getElem? q)
/-- the same elements, told otherwise -/
theorem arv_as {Z : State} {h : Heap} {a : Addr} {k : ClassId} {ty : FieldType} {n : Int32} {vs ws : List Value} {d : Value} (V : Arv Z h a k ty n vs d) (q : ∀ i, i < n.toNatClampNeg → vs.getD i d = ws.getD i d) : Arv Z h a k ty n ws d := by
  obtain ⟨c, A, q1, S, q3, H, G⟩ := V
  refine ⟨c, A, q1, S, q3, fun j hj => ?_, fun j hj => ?_⟩
  · rw [← q j (S ▸ hj)]; exact H j hj
  · rw [← q j (S ▸ hj)]; exact G j hj
theorem arv_cp {Z : State} {h : Heap} {a : Addr} {k : ClassId} {ty : FieldType} {n : Int32} {us X Y : List Value} {d : Value} (V : Arv Z h a k ty n (X.take (0 : Int32).toNatClampNeg ++ us ++ Y) d) (hu : us.length = n.toNatClampNeg) : Arv Z h a k ty n us d := by
  refine arv_as V fun i hi => ?_
  have e : (0 : Int32).toNatClampNeg = 0 := rfl
  have hl : i < us.length := by omega
  simp [e, List.getD_eq_getElem?_getD, List.getElem?_append, hl]
theorem fts (f t : Int32) : f + (t - f) = t := by rw [Int32.add_comm, Int32.sub_add_cancel]
end Jvm.OwnKit
/- laws to paste: Road.backV, Road.lenW, Road.eqW, Road.codOf (cut by pick.py; bodies as the Statement names them) -/
namespace Jvm.Pilot.@@N@@
namespace StrChars
open Jvm Sem ClassFile Op Lib Jvm.Stand Jvm.Free.XT Jvm.Free.ALB Jvm.Free.JM Jvm.Free
open Jvm.Lib.Cold (StaticIs)
/-- a char array whose places are chars -/
def Ch (a : Addr) (A : Cell) (U : State) : Prop := Arr .char a A U ∧ Typed .char A
theorem Ch.mv {a : Addr} {A : Cell} {U U' : State} (h : Ch a A U) (hal : U.vm.Alike U'.vm) (hh : U'.heap = U.heap) : Ch a A U' := ⟨h.1.mv hal hh, h.2⟩
theorem Ch.keep {a : Addr} {A : Cell} {U U' : State} (h : Ch a A U) (hal : U.vm.Alike U'.vm) (hk : U'.heap[a]? = some A) : Ch a A U' := ⟨h.1.keep hal hk, h.2⟩
/-- what place i of a char[]'s cell holds -/
def cv (A : Cell) (i : Nat) : Int32 := match A.slots[i]? with | some (.int x) => x | _ => 0
theorem Ch.get {a : Addr} {A : Cell} {U : State} (h : Ch a A U) {i : Nat} (hi : i < A.slots.size) : A.slots[i]? = some (.int (cv A i)) := by
  have e := Array.getElem?_eq_getElem hi
  have f := h.2 i _ e
  unfold cv; rw [e]
  generalize A.slots[i] = v at f
  cases v <;> simp [fits] at f ⊢
/-- the byte that i2b leaves of a char -/
def lo8 (x : Int32) : Int32 := x.toInt8.toInt32
theorem fits_lo8 (y : Int32) : fits .byte (.int (lo8 y)) = true := by
  have h1 := y.toInt8.le_toInt
  have h2 := y.toInt8.toInt_lt
  simp only [lo8, fits, Bool.and_eq_true, decide_eq_true_eq, Int32.le_iff_toInt_le, Int8.toInt_toInt32, show (-128 : Int32).toInt = -128 from by decide, show (127 : Int32).toInt = 127 from by decide]
  omega
/-- A' is A but that each place j of lo .. hi - 1 holds f j -/
def Laid (A A' : Cell) (lo hi : Nat) (f : Nat → Value) : Prop := A'.cls = A.cls ∧ A'.vm = A.vm ∧ A'.slots.size = A.slots.size ∧ ∀ i, A'.slots[i]? = if lo ≤ i ∧ i < hi then some (f i) else A.slots[i]?
theorem Laid.zero (A : Cell) (lo : Nat) (f : Nat → Value) : Laid A A lo (lo + 0) f := ⟨rfl, rfl, rfl, fun i => by rw [if_neg (by omega)]⟩
theorem Laid.step {A Ak : Cell} {lo k : Nat} {f : Nat → Value} {v : Value} (h : Laid A Ak lo k f) (hlo : lo ≤ k) (hk : k < Ak.slots.size) (hv : v = f k) : Laid A (Ak.setSlot k v) lo (k + 1) f := by
  refine ⟨h.1, h.2.1, by simpa [Cell.setSlot] using h.2.2.1, fun i => ?_⟩
  by_cases e : k = i
  · subst e; rw [Cell.slots_setSlot_self v hk, if_pos (by omega), hv]
  · rw [Cell.slots_setSlot_ne v e, h.2.2.2 i]
    by_cases q : lo ≤ i ∧ i < k
    · rw [if_pos q, if_pos (by omega)]
    · rw [if_neg q, if_neg (by omega)]
def U16 : String := "java/lang/StringUTF16"
namespace Cmp5
def yN : MethodName := ⟨"java/lang/StringUTF16", "compress", "([CI[BII)I"⟩
abbrev yB : ByteArray := jdk_52_method_21_code
theorem d0 : decode yB 0 = .ok (.iconst 0, 1) := by decide +kernel
theorem d1 : decode yB 1 = .ok (.istore 5, 2) := by decide +kernel
theorem d3 : decode yB 3 = .ok (.iload 5, 2) := by decide +kernel
theorem d5 : decode yB 5 = .ok (.iload 4, 2) := by decide +kernel
theorem d7 : decode yB 7 = .ok (.if_icmp (.ge) 37, 3) := by decide +kernel
theorem d10 : decode yB 10 = .ok (.aload_n 0, 1) := by decide +kernel
theorem d11 : decode yB 11 = .ok (.iload_n 1, 1) := by decide +kernel
theorem d12 : decode yB 12 = .ok (.caload, 1) := by decide +kernel
theorem d13 : decode yB 13 = .ok (.istore 6, 2) := by decide +kernel
theorem d15 : decode yB 15 = .ok (.iload 6, 2) := by decide +kernel
theorem d17 : decode yB 17 = .ok (.sipush 255, 3) := by decide +kernel
theorem d20 : decode yB 20 = .ok (.if_icmp (.le) 6, 3) := by decide +kernel
theorem d26 : decode yB 26 = .ok (.aload_n 2, 1) := by decide +kernel
theorem d27 : decode yB 27 = .ok (.iload_n 3, 1) := by decide +kernel
theorem d28 : decode yB 28 = .ok (.iload 6, 2) := by decide +kernel
theorem d30 : decode yB 30 = .ok (.i2b, 1) := by decide +kernel
theorem d31 : decode yB 31 = .ok (.bastore, 1) := by decide +kernel
theorem d32 : decode yB 32 = .ok (.iinc 1 1, 3) := by decide +kernel
theorem d35 : decode yB 35 = .ok (.iinc 3 1, 3) := by decide +kernel
theorem d38 : decode yB 38 = .ok (.iinc 5 1, 3) := by decide +kernel
theorem d41 : decode yB 41 = .ok (.goto (-38), 3) := by decide +kernel
theorem d44 : decode yB 44 = .ok (.iload 4, 2) := by decide +kernel
theorem d46 : decode yB 46 = .ok (.ireturn, 1) := by decide +kernel
def site : List Cond := []
def tab : Cond := tabOf yN yB 7 (some .int) site
def P (b : Addr) (A : Cell) (d : Addr) (B : Cell) (o q len : Nat) (args : Array Value) (s : State) : Prop := args = #[.ref b, .int (Int32.ofNat o), .ref d, .int (Int32.ofNat q), .int (Int32.ofNat len)] ∧ Ch b A s ∧ Arr .byte d B s ∧ b ≠ d ∧ o + len ≤ A.slots.size ∧ q + len ≤ B.slots.size ∧ ∀ i, i < len → ¬ 255 < cv A (o + i)
def E (b : Addr) (A : Cell) (d : Addr) (B : Cell) (o q len : Nat) (r : Option Value) (s u : State) : Prop := r = some (.int (Int32.ofNat len)) ∧ ∃ B', Put d B' s u ∧ Laid B B' q (q + len) (fun j => Value.int (lo8 (cv A (o + (j - q)))))
/-- no char of the range above 255: len; the places written hold each char's low byte -/
theorem law (l : Launch) (b : Addr) (A : Cell) (d : Addr) (B : Cell) (o q len : Nat) : Law l yN 5 5 0 0 yB 7 (some .int) site (P b A d B o q len) (E b A d B o q len) (copyLocs d q len) 0 0 := by
  refine Law.of_walk (plainFor_of_name (by decide +kernel)) (by decide +kernel) (by decide +kernel) (by decide) (fun _ _ h => by rw [h.1]; rfl) (fun _ U U' hal hh h => ⟨h.1, h.2.1.mv hal hh, h.2.2.1.mv hal hh, h.2.2.2⟩) (fun r U U' V V' h1 hal h2 h => ⟨h.1, h.2.elim fun B' q => ⟨B', q.1.mv h1 h2, q.2⟩⟩) ?_
  intro p e s m args below meth c s₁ X0 hexec hbytes hml hret hlk hnm hown hh0 W hP
  obtain ⟨rfl, hA, hB, hne, l1, l2, hp⟩ := hP
  have c1 : Steps p.tables e below (s₁.setTop (entryFrame m #[.ref b, .int (Int32.ofNat o), .ref d, .int (Int32.ofNat q), .int (Int32.ofNat len)] 7)) (s₁.setTop (mkF m 0 #[.val (.ref b), .val (.int (Int32.ofNat o)), .val (.ref d), .val (.int (Int32.ofNat q)), .val (.int (Int32.ofNat len)), .unset, .unset] [])) := entry rfl
  have hA0 := hA.1.mv X0.warmed.alike hh0
  have hB0 := hB.mv X0.warmed.alike hh0
  have a31 := hA.1.2.2.2
  have c2 : Steps p.tables e below (s₁.setTop (entryFrame m #[.ref b, .int (Int32.ofNat o), .ref d, .int (Int32.ofNat q), .int (Int32.ofNat len)] 7)) (s₁.setTop (mkF m 3 #[.val (.ref b), .val (.int (Int32.ofNat o)), .val (.ref d), .val (.int (Int32.ofNat q)), .val (.int (Int32.ofNat len)), .val (.int 0), .unset] [])) := c1.trans (by
    refine iconstV X0.here hexec rfl 0 (hb hbytes d0) (by decide) ?_
    refine XS.istore X0.here hexec rfl (hb hbytes d1) rfl rfl ?_
    exact Steps.refl _)
  have loop : ∀ (r i : Nat), i + r = len → ∀ (z : Slot), (z = .unset ∨ ∃ w, z = .val w ∧ w.category = 1) → ∀ (Tl : State) (Bk : Cell), Stand p l e { frames := 0, locals := 0, cells := 0, slots := 0 } s m #[.ref b, .int (Int32.ofNat o), .ref d, .int (Int32.ofNat q), .int (Int32.ofNat len)] below meth c Tl ([] ++ copyLocs d q i) 0 0 → Put d Bk s₁ Tl → Laid B Bk q (q + i) (fun j => Value.int (lo8 (cv A (o + (j - q))))) →
      Steps p.tables e below (s₁.setTop (entryFrame m #[.ref b, .int (Int32.ofNat o), .ref d, .int (Int32.ofNat q), .int (Int32.ofNat len)] 7)) (Tl.setTop (mkF m 3 #[.val (.ref b), .val (.int (Int32.ofNat (o + i))), .val (.ref d), .val (.int (Int32.ofNat (q + i))), .val (.int (Int32.ofNat len)), .val (.int (Int32.ofNat i)), z] [])) → ∃ (T' : State) (B' : Cell) (z' : Slot), Stand p l e { frames := 0, locals := 0, cells := 0, slots := 0 } s m #[.ref b, .int (Int32.ofNat o), .ref d, .int (Int32.ofNat q), .int (Int32.ofNat len)] below meth c T' ([] ++ copyLocs d q len) 0 0 ∧ Put d B' s₁ T' ∧ Laid B B' q (q + len) (fun j => Value.int (lo8 (cv A (o + (j - q))))) ∧
      Steps p.tables e below (s₁.setTop (entryFrame m #[.ref b, .int (Int32.ofNat o), .ref d, .int (Int32.ofNat q), .int (Int32.ofNat len)] 7)) (T'.setTop (mkF m 3 #[.val (.ref b), .val (.int (Int32.ofNat (o + len))), .val (.ref d), .val (.int (Int32.ofNat (q + len))), .val (.int (Int32.ofNat len)), .val (.int (Int32.ofNat len)), z'] [])) := by
    intro r
    induction r with
    | zero =>
      intro i hi z hz Tl Bk Xl pl fl cl
      have hil : i = len := by omega
      rw [hil] at Xl fl cl
      exact ⟨Tl, Bk, z, Xl, pl, fl, cl⟩
    | succ r ih =>
      intro i hi z hz Tl Bk Xl pl fl cl
      have all := X0.warmed.alike.symm.trans Xl.warmed.alike
      have hAl := hA0.keep all (pl.other hne hA0.1)
      have hBk := hB0.like all pl.1 fl.1 fl.2.1 fl.2.2.1
      have hlt : q + i < Bk.slots.size := by rw [fl.2.2.1]; omega
      have c3 : Steps p.tables e below (s₁.setTop (entryFrame m #[.ref b, .int (Int32.ofNat o), .ref d, .int (Int32.ofNat q), .int (Int32.ofNat len)] 7)) (Tl.setTop (mkF m 12 #[.val (.ref b), .val (.int (Int32.ofNat (o + i))), .val (.ref d), .val (.int (Int32.ofNat (q + i))), .val (.int (Int32.ofNat len)), .val (.int (Int32.ofNat i)), z] [.int (Int32.ofNat (o + i)), .ref b])) := cl.trans (by
        refine XS.iload Xl.here hexec rfl (hb hbytes d3) rfl ?_
        refine XS.iload Xl.here hexec rfl (hb hbytes d5) rfl ?_
        refine XS.icmpNo Xl.here hexec rfl (hb hbytes d7) rfl (ii_ge_f (lt32 (by omega) (by omega))) ?_
        refine XS.aloadN Xl.here hexec rfl (hb hbytes d10) rfl rfl ?_
        refine XS.iloadN Xl.here hexec rfl (hb hbytes d11) rfl ?_
        exact Steps.refl _)
      have c4 : Steps p.tables e below (s₁.setTop (entryFrame m #[.ref b, .int (Int32.ofNat o), .ref d, .int (Int32.ofNat q), .int (Int32.ofNat len)] 7)) (Tl.setTop (mkF m 13 #[.val (.ref b), .val (.int (Int32.ofNat (o + i))), .val (.ref d), .val (.int (Int32.ofNat (q + i))), .val (.int (Int32.ofNat len)), .val (.int (Int32.ofNat i)), z] [.int (cv A (o + i))])) := c3.trans (by
        refine Xl.aget hexec hAl rfl (hA.get (i := o + i) (by omega)) rfl rfl (hb hbytes d12) ?_
        exact Steps.refl _)
      have c5 : Steps p.tables e below (s₁.setTop (entryFrame m #[.ref b, .int (Int32.ofNat o), .ref d, .int (Int32.ofNat q), .int (Int32.ofNat len)] 7)) (Tl.setTop (mkF m 15 #[.val (.ref b), .val (.int (Int32.ofNat (o + i))), .val (.ref d), .val (.int (Int32.ofNat (q + i))), .val (.int (Int32.ofNat len)), .val (.int (Int32.ofNat i)), .val (.int (cv A (o + i)))] [])) := c4.trans (by
        refine XS.istoreS Xl.here hexec rfl (hb hbytes d13) rfl rfl hz ?_
        exact Steps.refl _)
      have c6 : Steps p.tables e below (s₁.setTop (entryFrame m #[.ref b, .int (Int32.ofNat o), .ref d, .int (Int32.ofNat q), .int (Int32.ofNat len)] 7)) (Tl.setTop (mkF m 31 #[.val (.ref b), .val (.int (Int32.ofNat (o + i))), .val (.ref d), .val (.int (Int32.ofNat (q + i))), .val (.int (Int32.ofNat len)), .val (.int (Int32.ofNat i)), .val (.int (cv A (o + i)))] [.int (lo8 (cv A (o + i))), .int (Int32.ofNat (q + i)), .ref d])) := c5.trans (by
        refine XS.iload Xl.here hexec rfl (hb hbytes d15) rfl ?_
        refine sipushV Xl.here hexec rfl 255 (hb hbytes d17) (by decide) ?_
        refine XS.icmpYes Xl.here hexec rfl (pc0 := 20) rfl (hb hbytes d20) rfl (ii_le_t (hp i (by omega))) (by decide) rfl ?_
        refine XS.aloadN Xl.here hexec rfl (hb hbytes d26) rfl rfl ?_
        refine XS.iloadN Xl.here hexec rfl (hb hbytes d27) rfl ?_
        refine XS.iload Xl.here hexec rfl (hb hbytes d28) rfl ?_
        refine i2b Xl.here hexec rfl (hb hbytes d30) rfl ?_
        exact Steps.refl _)
      obtain ⟨T7, X7, p7, st7⟩ := Xl.aput hexec hBk rfl hlt rfl (fits_lo8 (cv A (o + i))) (g := (mkF m 31 #[.val (.ref b), .val (.int (Int32.ofNat (o + i))), .val (.ref d), .val (.int (Int32.ofNat (q + i))), .val (.int (Int32.ofNat len)), .val (.int (Int32.ofNat i)), .val (.int (cv A (o + i)))] [.int (lo8 (cv A (o + i))), .int (Int32.ofNat (q + i)), .ref d])) rfl (rest := []) rfl (hb hbytes d31)
      have c8 : Steps p.tables e below (s₁.setTop (entryFrame m #[.ref b, .int (Int32.ofNat o), .ref d, .int (Int32.ofNat q), .int (Int32.ofNat len)] 7)) (T7.setTop (mkF m 32 #[.val (.ref b), .val (.int (Int32.ofNat (o + i))), .val (.ref d), .val (.int (Int32.ofNat (q + i))), .val (.int (Int32.ofNat len)), .val (.int (Int32.ofNat i)), .val (.int (cv A (o + i)))] [])) := c6.trans (st7 _ (Steps.refl _))
      have c9 : Steps p.tables e below (s₁.setTop (entryFrame m #[.ref b, .int (Int32.ofNat o), .ref d, .int (Int32.ofNat q), .int (Int32.ofNat len)] 7)) (T7.setTop (mkF m 3 #[.val (.ref b), .val (.int (Int32.ofNat (o + i) + 1)), .val (.ref d), .val (.int (Int32.ofNat (q + i) + 1)), .val (.int (Int32.ofNat len)), .val (.int (Int32.ofNat i + 1)), .val (.int (cv A (o + i)))] [])) := c8.trans (by
        refine iincV X7.here hexec rfl 1 (hb hbytes d32) (by decide) rfl rfl ?_
        refine iincV X7.here hexec rfl 1 (hb hbytes d35) (by decide) rfl rfl ?_
        refine iincV X7.here hexec rfl 1 (hb hbytes d38) (by decide) rfl rfl ?_
        refine XS.goto X7.here hexec rfl (pc0 := 41) rfl (hb hbytes d41) (by decide) rfl ?_
        exact Steps.refl _)
      have c10 : Steps p.tables e below (s₁.setTop (entryFrame m #[.ref b, .int (Int32.ofNat o), .ref d, .int (Int32.ofNat q), .int (Int32.ofNat len)] 7)) (T7.setTop (mkF m 3 #[.val (.ref b), .val (.int (Int32.ofNat (o + (i + 1)))), .val (.ref d), .val (.int (Int32.ofNat (q + (i + 1)))), .val (.int (Int32.ofNat len)), .val (.int (Int32.ofNat (i + 1))), .val (.int (cv A (o + i)))] [])) := by
        have := c9
        rw [succ32, succ32, succ32] at this
        exact this
      exact ih (i + 1) (by omega) _ (Or.inr ⟨_, rfl, rfl⟩) T7 _ (by rw [copyLocs_step, ← List.append_assoc]; exact X7) (pl.trans p7) (fl.step (by omega) hlt (by simp)) c10
  obtain ⟨T9, B9, z9, X9, p9, f9, g9⟩ := loop len 0 (by omega) .unset (Or.inl rfl) s₁ B (by simpa [copyLocs] using X0) ⟨hB0.1, fun _ _ => rfl, rfl⟩ (Laid.zero _ _ _) c2
  have c11 : Steps p.tables e below (s₁.setTop (entryFrame m #[.ref b, .int (Int32.ofNat o), .ref d, .int (Int32.ofNat q), .int (Int32.ofNat len)] 7)) (T9.setTop (mkF m 46 #[.val (.ref b), .val (.int (Int32.ofNat (o + len))), .val (.ref d), .val (.int (Int32.ofNat (q + len))), .val (.int (Int32.ofNat len)), .val (.int (Int32.ofNat len)), z9] [.int (Int32.ofNat len)])) := g9.trans (by
    refine XS.iload X9.here hexec rfl (hb hbytes d3) rfl ?_
    refine XS.iload X9.here hexec rfl (hb hbytes d5) rfl ?_
    refine XS.icmpYes X9.here hexec rfl (pc0 := 7) rfl (hb hbytes d7) rfl (ii_ge_t (nlt32 (by omega) (Nat.le_refl _))) (by decide) rfl ?_
    refine XS.iload X9.here hexec rfl (hb hbytes d44) rfl ?_
    exact Steps.refl _)
  exact ⟨T9, some (.int (Int32.ofNat len)), _, _, _, X9, by simp, rfl, rfl, (fun h => by cases h), ⟨rfl, B9, p9.from hh0, f9⟩, fun fs hl => c11.trans (X9.ireturnOut hexec hret rfl (Or.inl rfl) (hb hbytes d46) hl)⟩
end Cmp5
namespace Cmp3
def yN : MethodName := ⟨"java/lang/StringUTF16", "compress", "([CII)[B"⟩
abbrev yB : ByteArray := jdk_52_method_16_code
theorem d0 : decode yB 0 = .ok (.iload_n 2, 1) := by decide +kernel
theorem d1 : decode yB 1 = .ok (.newarray .byte, 2) := by decide +kernel
theorem d3 : decode yB 3 = .ok (.astore_n 3, 1) := by decide +kernel
theorem d4 : decode yB 4 = .ok (.aload_n 0, 1) := by decide +kernel
theorem d5 : decode yB 5 = .ok (.iload_n 1, 1) := by decide +kernel
theorem d6 : decode yB 6 = .ok (.aload_n 3, 1) := by decide +kernel
theorem d7 : decode yB 7 = .ok (.iconst 0, 1) := by decide +kernel
theorem d8 : decode yB 8 = .ok (.iload_n 2, 1) := by decide +kernel
theorem d9 : decode yB 9 = .ok (.invokestatic 115, 3) := by decide +kernel
theorem d12 : decode yB 12 = .ok (.istore 4, 2) := by decide +kernel
theorem d14 : decode yB 14 = .ok (.iload 4, 2) := by decide +kernel
theorem d16 : decode yB 16 = .ok (.iload_n 2, 1) := by decide +kernel
theorem d17 : decode yB 17 = .ok (.if_icmp (.eq) 40, 3) := by decide +kernel
theorem d57 : decode yB 57 = .ok (.aload_n 3, 1) := by decide +kernel
theorem d58 : decode yB 58 = .ok (.areturn, 1) := by decide +kernel
def site : List Cond := [.arrayClass .byte, Cmp5.tab] ++ staticW U16 115 Cmp5.yN
def tab : Cond := tabOf yN yB 6 (some (.array .byte)) site
def P (b : Addr) (A : Cell) (o len : Nat) (args : Array Value) (s : State) : Prop := args = #[.ref b, .int (Int32.ofNat o), .int (Int32.ofNat len)] ∧ Ch b A s ∧ o + len ≤ A.slots.size ∧ len ≤ 536870912 ∧ ∀ i, i < len → ¬ 255 < cv A (o + i)
def E (b : Addr) (A : Cell) (o len : Nat) (r : Option Value) (s u : State) : Prop := NewArr .byte "[B" len (fun j => .int (lo8 (cv A (o + j)))) r s u ∧ u.heap.size = s.heap.size + 1
/-- no char of the range above 255: a new byte[] of their low bytes -/
theorem law (l : Launch) (b : Addr) (A : Cell) (o len : Nat) : Law l yN 3 3 1 18 yB 6 (some (.array .byte)) site (P b A o len) (E b A o len) [] 1 len := by
  refine Law.of_walk (plainFor_of_name (by decide +kernel)) (by decide +kernel) (by decide +kernel) (by decide) (fun _ _ h => by rw [h.1]; rfl) (fun _ U U' hal hh h => ⟨h.1, h.2.1.mv hal hh, h.2.2⟩) (fun r U U' V V' h1 hal h2 h => ⟨NewArr.mv r U U' V V' h1 hal h2 h.1, by rw [h1, h2]; exact h.2⟩) ?_
  intro p e s m args below meth c s₁ X0 hexec hbytes hml hret hlk hnm hown hh0 W hP
  obtain ⟨rfl, hA, l1, l2, hp⟩ := hP
  have a31 := hA.1.2.2.2
  have c1 : Steps p.tables e below (s₁.setTop (entryFrame m #[.ref b, .int (Int32.ofNat o), .int (Int32.ofNat len)] 6)) (s₁.setTop (mkF m 0 #[.val (.ref b), .val (.int (Int32.ofNat o)), .val (.int (Int32.ofNat len)), .unset, .unset, .unset] [])) := entry rfl
  have c2 : Steps p.tables e below (s₁.setTop (entryFrame m #[.ref b, .int (Int32.ofNat o), .int (Int32.ofNat len)] 6)) (s₁.setTop (mkF m 1 #[.val (.ref b), .val (.int (Int32.ofNat o)), .val (.int (Int32.ofNat len)), .unset, .unset, .unset] [.int (Int32.ofNat len)])) := c1.trans (by
    refine XS.iloadN X0.here hexec rfl (hb hbytes d0) rfl ?_
    exact Steps.refl _)
  obtain ⟨T3, B3, X3, ba3, bs3, bv3, bh3, bf3, st3⟩ := X0.anew hexec (atype := .byte) (wk W (.arrayClass .byte)) rfl (by show len * 1 ≤ _; omega) (by omega) (g := (mkF m 1 #[.val (.ref b), .val (.int (Int32.ofNat o)), .val (.int (Int32.ofNat len)), .unset, .unset, .unset] [.int (Int32.ofNat len)])) rfl (hb hbytes d1) (rest := []) rfl (Nat.le_refl _) (by show 0 + len ≤ len; omega)
  rw [hh0] at ba3 st3
  have kp3 : XT.Kept s T3 := (XT.Kept.of_eq hh0).push bh3
  have hA3 := hA.keep X3.warmed.alike (kp3 _ _ hA.1.1)
  have hne : b ≠ s.heap.size := hA.1.ne
  have c4 : Steps p.tables e below (s₁.setTop (entryFrame m #[.ref b, .int (Int32.ofNat o), .int (Int32.ofNat len)] 6)) (T3.setTop (mkF m 3 #[.val (.ref b), .val (.int (Int32.ofNat o)), .val (.int (Int32.ofNat len)), .unset, .unset, .unset] [.ref s.heap.size])) := c2.trans (st3 _ (Steps.refl _))
  have c5 : Steps p.tables e below (s₁.setTop (entryFrame m #[.ref b, .int (Int32.ofNat o), .int (Int32.ofNat len)] 6)) (T3.setTop (mkF m 9 #[.val (.ref b), .val (.int (Int32.ofNat o)), .val (.int (Int32.ofNat len)), .val (.ref s.heap.size), .unset, .unset] [.int (Int32.ofNat len), .int 0, .ref s.heap.size, .int (Int32.ofNat o), .ref b])) := c4.trans (by
    refine XS.astoreN X3.here hexec rfl (hb hbytes d3) rfl rfl rfl ?_
    refine XS.aloadN X3.here hexec rfl (hb hbytes d4) rfl rfl ?_
    refine XS.iloadN X3.here hexec rfl (hb hbytes d5) rfl ?_
    refine XS.aloadN X3.here hexec rfl (hb hbytes d6) rfl rfl ?_
    refine iconstV X3.here hexec rfl 0 (hb hbytes d7) (by decide) ?_
    refine XS.iloadN X3.here hexec rfl (hb hbytes d8) rfl ?_
    exact Steps.refl _)
  obtain ⟨v6, T6, X6, E6, g6⟩ := X3.callS hexec (Cmp5.law l b A s.heap.size B3 o 0 len) hown (wks W (staticW U16 115 Cmp5.yN)) (wk W Cmp5.tab) (W := 0) (Nat.le_of_ble_eq_true rfl) (Nat.le_of_ble_eq_true rfl) (Nat.le_refl _) (by show 0 + len + 0 ≤ len; omega) (g := (mkF m 9 #[.val (.ref b), .val (.int (Int32.ofNat o)), .val (.int (Int32.ofNat len)), .val (.ref s.heap.size), .unset, .unset] [.int (Int32.ofNat len), .int (Int32.ofNat 0), .ref s.heap.size, .int (Int32.ofNat o), .ref b])) rfl (by rw [hml]; rfl) c5 (argsL := [.ref b, .int (Int32.ofNat o), .ref s.heap.size, .int (Int32.ofNat 0), .int (Int32.ofNat len)]) (rest := []) rfl rfl (by show 2 * 0 + 0 ≤ _; decide) (hb hbytes d9) (⟨rfl, hA3, ba3, hne, l1, by rw [bs3]; simp, hp⟩)
  obtain ⟨rfl, B6, p6, f6⟩ := E6
  have c7 : Steps p.tables e below (s₁.setTop (entryFrame m #[.ref b, .int (Int32.ofNat o), .int (Int32.ofNat len)] 6)) (T6.setTop (mkF m 12 #[.val (.ref b), .val (.int (Int32.ofNat o)), .val (.int (Int32.ofNat len)), .val (.ref s.heap.size), .unset, .unset] [.int (Int32.ofNat len)])) := g6
  have c8 : Steps p.tables e below (s₁.setTop (entryFrame m #[.ref b, .int (Int32.ofNat o), .int (Int32.ofNat len)] 6)) (T6.setTop (mkF m 58 #[.val (.ref b), .val (.int (Int32.ofNat o)), .val (.int (Int32.ofNat len)), .val (.ref s.heap.size), .val (.int (Int32.ofNat len)), .unset] [.ref s.heap.size])) := c7.trans (by
    refine XS.istore X6.here hexec rfl (hb hbytes d12) rfl rfl ?_
    refine XS.iload X6.here hexec rfl (hb hbytes d14) rfl ?_
    refine XS.iloadN X6.here hexec rfl (hb hbytes d16) rfl ?_
    refine XS.icmpYes X6.here hexec rfl (pc0 := 17) rfl (hb hbytes d17) rfl (ii_eq_t rfl) (by decide) rfl ?_
    refine XS.aloadN X6.here hexec rfl (hb hbytes d57) rfl rfl ?_
    exact Steps.refl _)
  have X8 := X6.wide (L' := []) (cells' := 1) (slots' := len) (fun x hx hlt => by
    simp only [List.nil_append, copyLocs, List.mem_map, List.mem_range] at hx
    obtain ⟨i, -, rfl⟩ := hx
    exact absurd hlt (Nat.lt_irrefl _)) (Nat.le_refl _) (by omega)
  exact ⟨T6, some (.ref s.heap.size), _, _, _, X8, rfl, rfl, rfl, (fun h => by cases h), ⟨⟨rfl, B6, ba3.like (X3.warmed.alike.symm.trans X6.warmed.alike) p6.1 f6.1 f6.2.1 f6.2.2.1, f6.2.1.trans bv3, by rw [X6.warmed.alike.findClass, f6.1]; exact bf3, by rw [f6.2.2.1, bs3]; simp, fun j hj => by rw [f6.2.2.2 j, if_pos (by omega)]; rfl, kp3.put p6 (Nat.le_refl _)⟩, by rw [p6.2.2, bh3, hh0]; simp⟩, fun fs hl => c8.trans (X8.areturnOut hexec rfl hret rfl (hb hbytes d58) hl)⟩
end Cmp3
namespace CodL
def yN : MethodName := ⟨"java/lang/StringUTF16", "coderFromArrayLen", "([BI)B"⟩
abbrev yB : ByteArray := jdk_52_method_15_code
theorem d0 : decode yB 0 = .ok (.iload_n 1, 1) := by decide +kernel
theorem d1 : decode yB 1 = .ok (.aload_n 0, 1) := by decide +kernel
theorem d2 : decode yB 2 = .ok (.arraylength, 1) := by decide +kernel
theorem d3 : decode yB 3 = .ok (.isub, 1) := by decide +kernel
theorem d4 : decode yB 4 = .ok (.bipush 31, 2) := by decide +kernel
theorem d6 : decode yB 6 = .ok (.iushr, 1) := by decide +kernel
theorem d7 : decode yB 7 = .ok (.i2b, 1) := by decide +kernel
theorem d8 : decode yB 8 = .ok (.ireturn, 1) := by decide +kernel
def site : List Cond := []
def tab : Cond := tabOf yN yB 2 (some .byte) site
def P (d : Addr) (B : Cell) (args : Array Value) (s : State) : Prop := args = #[.ref d, .int (Int32.ofNat B.slots.size)] ∧ Arr .byte d B s
def E (r : Option Value) (s u : State) : Prop := XT.PureE (some (.int 0)) r s u
/-- an array as long as the number of chars: LATIN1 -/
theorem law (l : Launch) (d : Addr) (B : Cell) : Law l yN 2 2 0 0 yB 2 (some .byte) site (P d B) E [] 0 0 := by
  refine Law.of_walk (plainFor_of_name (by decide +kernel)) (by decide +kernel) (by decide +kernel) (by decide) (fun _ _ h => by rw [h.1]; rfl) (fun _ U U' hal hh h => ⟨h.1, h.2.mv hal hh⟩) (fun r U U' V V' h1 hal h2 h => XT.PureE.mv r U U' V V' h1 hal h2 h) ?_
  intro p e s m args below meth c s₁ X0 hexec hbytes hml hret hlk hnm hown hh0 W hP
  obtain ⟨rfl, hB⟩ := hP
  have hB0 := hB.mv X0.warmed.alike hh0
  have c1 : Steps p.tables e below (s₁.setTop (entryFrame m #[.ref d, .int (Int32.ofNat B.slots.size)] 2)) (s₁.setTop (mkF m 0 #[.val (.ref d), .val (.int (Int32.ofNat B.slots.size))] [])) := entry rfl
  have c2 : Steps p.tables e below (s₁.setTop (entryFrame m #[.ref d, .int (Int32.ofNat B.slots.size)] 2)) (s₁.setTop (mkF m 2 #[.val (.ref d), .val (.int (Int32.ofNat B.slots.size))] [.ref d, .int (Int32.ofNat B.slots.size)])) := c1.trans (by
    refine XS.iloadN X0.here hexec rfl (hb hbytes d0) rfl ?_
    refine XS.aloadN X0.here hexec rfl (hb hbytes d1) rfl rfl ?_
    exact Steps.refl _)
  have c3 : Steps p.tables e below (s₁.setTop (entryFrame m #[.ref d, .int (Int32.ofNat B.slots.size)] 2)) (s₁.setTop (mkF m 8 #[.val (.ref d), .val (.int (Int32.ofNat B.slots.size))] [.int (lo8 (ushr (Int32.ofNat B.slots.size - Int32.ofNat B.slots.size) 31))])) := c2.trans (by
    refine X0.alen hexec hB0 rfl rfl (hb hbytes d2) ?_
    refine XS.isub X0.here hexec rfl (hb hbytes d3) rfl ?_
    refine bipushV X0.here hexec rfl 31 (hb hbytes d4) (by decide) ?_
    refine iushr X0.here hexec rfl (hb hbytes d6) rfl ?_
    refine i2b X0.here hexec rfl (hb hbytes d7) rfl ?_
    exact Steps.refl _)
  have e0 : lo8 (ushr (Int32.ofNat B.slots.size - Int32.ofNat B.slots.size) 31) = 0 := by rw [Int32.sub_self]; decide
  rw [e0] at c3
  exact ⟨s₁, some (.int 0), _, _, _, X0, rfl, rfl, rfl, (fun h => by cases h), ⟨rfl, hh0⟩, fun fs hl => c3.trans (X0.ireturnOut hexec hret rfl (Or.inr (Or.inr (Or.inl rfl))) (hb hbytes d8) hl)⟩
end CodL
/-- the String at a is Latin-1 over a new byte[] (the heap's one new cell): the low bytes of the len chars of A from o on; every cell but a is kept -/
def Got (a : Addr) (D : Cell) (fV fC : Field) (A : Cell) (o len : Nat) (r : Option Value) (s u : State) : Prop := r = none ∧ ∃ D' V : Cell, Blank "java/lang/String" a D' u ∧ Same D D' [fV.slot, fC.slot] ∧ D'.slots[fV.slot]? = some (.ref s.heap.size) ∧ D'.slots[fC.slot]? = some (.int 0) ∧ Arr .byte s.heap.size V u ∧ V.vm = .none ∧ u.vm.findClass "[B" = some V.cls ∧ V.slots.size = len ∧ (∀ j, j < len → V.slots[j]? = some (.int (lo8 (cv A (o + j))))) ∧ (∀ (y : Addr) (c : Cell), y ≠ a → s.heap[y]? = some c → u.heap[y]? = some c) ∧ u.heap.size = s.heap.size + 1
theorem Got.mv {a : Addr} {D A : Cell} {fV fC : Field} {o len : Nat} : ∀ r (U U' V V' : State), U'.heap = U.heap → V.vm.Alike V'.vm → V'.heap = V.heap → Got a D fV fC A o len r U V → Got a D fV fC A o len r U' V' :=
  fun r U U' V V' h1 hal h2 ⟨e0, D', X, a1, a2, a3, a4, a5, a6, a7, a8, a9, a10, a11⟩ => ⟨e0, D', X, a1.mv hal h2, a2, by rw [h1]; exact a3, a4, by rw [h1]; exact a5.mv hal h2, a6, by rw [hal.findClass]; exact a7, a8, a9, by rw [h1, h2]; exact a10, by rw [h1, h2]; exact a11⟩
namespace New4
def yN : MethodName := ⟨"java/lang/String", "<init>", "([CIILjava/lang/Void;)V"⟩
abbrev yB : ByteArray := jdk_42_method_149_code
theorem d0 : decode yB 0 = .ok (.aload_n 0, 1) := by decide +kernel
theorem d1 : decode yB 1 = .ok (.invokespecial 1, 3) := by decide +kernel
theorem d4 : decode yB 4 = .ok (.iload_n 3, 1) := by decide +kernel
theorem d5 : decode yB 5 = .ok (.ifCond (.ne) 22, 3) := by decide +kernel
theorem d27 : decode yB 27 = .ok (.getstatic 38, 3) := by decide +kernel
theorem d30 : decode yB 30 = .ok (.ifCond (.eq) 28, 3) := by decide +kernel
theorem d33 : decode yB 33 = .ok (.aload_n 1, 1) := by decide +kernel
theorem d34 : decode yB 34 = .ok (.iload_n 2, 1) := by decide +kernel
theorem d35 : decode yB 35 = .ok (.iload_n 3, 1) := by decide +kernel
theorem d36 : decode yB 36 = .ok (.invokestatic 177, 3) := by decide +kernel
theorem d39 : decode yB 39 = .ok (.astore 5, 2) := by decide +kernel
theorem d41 : decode yB 41 = .ok (.aload_n 0, 1) := by decide +kernel
theorem d42 : decode yB 42 = .ok (.aload 5, 2) := by decide +kernel
theorem d44 : decode yB 44 = .ok (.iload_n 3, 1) := by decide +kernel
theorem d45 : decode yB 45 = .ok (.invokestatic 47, 3) := by decide +kernel
theorem d48 : decode yB 48 = .ok (.putfield 15, 3) := by decide +kernel
theorem d51 : decode yB 51 = .ok (.aload_n 0, 1) := by decide +kernel
theorem d52 : decode yB 52 = .ok (.aload 5, 2) := by decide +kernel
theorem d54 : decode yB 54 = .ok (.putfield 9, 3) := by decide +kernel
theorem d57 : decode yB 57 = .ok (.return_, 1) := by decide +kernel
def site : List Cond := [.fieldLink "java/lang/String" 38 "java/lang/String" "COMPACT_STRINGS" "Z", Cmp3.tab, CodL.tab, .laysFinal "java/lang/String" "java/lang/String" "value" "[B", .fieldLink "java/lang/String" 9 "java/lang/String" "value" "[B", .laysFinal "java/lang/String" "java/lang/String" "coder" "B", .fieldLink "java/lang/String" 15 "java/lang/String" "coder" "B"] ++ objW "java/lang/String" 1 ++ staticW "java/lang/String" 177 Cmp3.yN ++ staticW "java/lang/String" 47 CodL.yN
def tab : Cond := tabOf yN yB 6 none site
def P (a : Addr) (D : Cell) (fV fC : Field) (b : Addr) (A : Cell) (z : Int32) (o len : Nat) (args : Array Value) (s : State) : Prop := args = #[.ref a, .ref b, .int (Int32.ofNat o), .int (Int32.ofNat len), .null] ∧ Blank "java/lang/String" a D s ∧ Found "java/lang/String" "value" "[B" fV s ∧ Found "java/lang/String" "coder" "B" fC s ∧ Ch b A s ∧ StaticIs s "java/lang/String" "COMPACT_STRINGS" "Z" (.int z) ∧ ¬ z = 0 ∧ 0 < len ∧ o + len ≤ A.slots.size ∧ len ≤ 536870912 ∧ ∀ i, i < len → ¬ 255 < cv A (o + i)
def E (a : Addr) (D : Cell) (fV fC : Field) (A : Cell) (o len : Nat) (r : Option Value) (s u : State) : Prop := Got a D fV fC A o len r s u
/-- len > 0, no char of the range above 255: a Latin-1 String of their low bytes -/
theorem law (l : Launch) (a : Addr) (D : Cell) (fV fC : Field) (b : Addr) (A : Cell) (z : Int32) (o len : Nat) : Law l yN 5 4 2 35 yB 6 none site (P a D fV fC b A z o len) (E a D fV fC A o len) [⟨a, fC.slot⟩, ⟨a, fV.slot⟩] 1 len := by
  refine Law.of_walk (plainFor_of_name (by decide +kernel)) (by decide +kernel) (by decide +kernel) (by decide) (fun _ _ h => by rw [h.1]; rfl) (fun _ U U' hal hh h => ⟨h.1, h.2.1.mv hal hh, h.2.2.1.al hal, h.2.2.2.1.al hal, h.2.2.2.2.1.mv hal hh, h.2.2.2.2.2.1.there hal hh, h.2.2.2.2.2.2⟩) (fun r U U' V V' h1 hal h2 h => Got.mv r U U' V V' h1 hal h2 h) ?_
  intro p e s m args below meth c s₁ X0 hexec hbytes hml hret hlk hnm hown hh0 W hP
  obtain ⟨rfl, hB, f1, f2, hA, s1, hz, l0, l1, l2, hp⟩ := hP
  have a31 := hA.1.2.2.2
  have c1 : Steps p.tables e below (s₁.setTop (entryFrame m #[.ref a, .ref b, .int (Int32.ofNat o), .int (Int32.ofNat len), .null] 6)) (s₁.setTop (mkF m 0 #[.val (.ref a), .val (.ref b), .val (.int (Int32.ofNat o)), .val (.int (Int32.ofNat len)), .val .null, .unset] [])) := entry rfl
  have c2 : Steps p.tables e below (s₁.setTop (entryFrame m #[.ref a, .ref b, .int (Int32.ofNat o), .int (Int32.ofNat len), .null] 6)) (s₁.setTop (mkF m 1 #[.val (.ref a), .val (.ref b), .val (.int (Int32.ofNat o)), .val (.int (Int32.ofNat len)), .val .null, .unset] [.ref a])) := c1.trans (by
    refine XS.aloadN X0.here hexec rfl (hb hbytes d0) rfl rfl ?_
    exact Steps.refl _)
  obtain ⟨T3, X3, q3, st3⟩ := X0.oinit hexec hown (wks W (objW "java/lang/String" 1)) (g := (mkF m 1 #[.val (.ref a), .val (.ref b), .val (.int (Int32.ofNat o)), .val (.int (Int32.ofNat len)), .val .null, .unset] [.ref a])) rfl (by rw [hml]; rfl) (rest := []) rfl (hb hbytes d1) (W := 0) (by show 2 * 0 + 0 ≤ _; decide) (Nat.le_of_ble_eq_true rfl) (Nat.le_of_ble_eq_true rfl)
  have hh3 := q3.trans hh0
  have c4 : Steps p.tables e below (s₁.setTop (entryFrame m #[.ref a, .ref b, .int (Int32.ofNat o), .int (Int32.ofNat len), .null] 6)) (T3.setTop (mkF m 27 #[.val (.ref a), .val (.ref b), .val (.int (Int32.ofNat o)), .val (.int (Int32.ofNat len)), .val .null, .unset] [])) := (c2.trans (st3 _ (Steps.refl _))).trans (by
    refine XS.iloadN X3.here hexec rfl (hb hbytes d4) rfl ?_
    refine XS.ifYes X3.here hexec rfl (pc0 := 5) rfl (hb hbytes d5) rfl (i0_ne_t (nz32 (by omega) l0)) (by decide) rfl ?_
    exact Steps.refl _)
  obtain ⟨T5, X5, q5, st5⟩ := X3.sget hexec hown (wk W (.fieldLink "java/lang/String" 38 "java/lang/String" "COMPACT_STRINGS" "Z")) s1 (fun _ _ h => by rw [hh3]; exact h) (g := (mkF m 27 #[.val (.ref a), .val (.ref b), .val (.int (Int32.ofNat o)), .val (.int (Int32.ofNat len)), .val .null, .unset] [])) rfl (hb hbytes d27)
  have hh5 := q5.trans hh3
  have c6 : Steps p.tables e below (s₁.setTop (entryFrame m #[.ref a, .ref b, .int (Int32.ofNat o), .int (Int32.ofNat len), .null] 6)) (T5.setTop (mkF m 30 #[.val (.ref a), .val (.ref b), .val (.int (Int32.ofNat o)), .val (.int (Int32.ofNat len)), .val .null, .unset] [.int z])) := c4.trans (st5 _ (Steps.refl _))
  have c7 : Steps p.tables e below (s₁.setTop (entryFrame m #[.ref a, .ref b, .int (Int32.ofNat o), .int (Int32.ofNat len), .null] 6)) (T5.setTop (mkF m 36 #[.val (.ref a), .val (.ref b), .val (.int (Int32.ofNat o)), .val (.int (Int32.ofNat len)), .val .null, .unset] [.int (Int32.ofNat len), .int (Int32.ofNat o), .ref b])) := c6.trans (by
    refine XS.ifNo X5.here hexec rfl (hb hbytes d30) rfl (i0_eq_f hz) ?_
    refine XS.aloadN X5.here hexec rfl (hb hbytes d33) rfl rfl ?_
    refine XS.iloadN X5.here hexec rfl (hb hbytes d34) rfl ?_
    refine XS.iloadN X5.here hexec rfl (hb hbytes d35) rfl ?_
    exact Steps.refl _)
  obtain ⟨v8, T8, X8, E8, g8⟩ := X5.callS hexec (Cmp3.law l b A o len) hown (wks W (staticW "java/lang/String" 177 Cmp3.yN)) (wk W Cmp3.tab) (W := 0) (Nat.le_of_ble_eq_true rfl) (Nat.le_of_ble_eq_true rfl) (Nat.le_refl _) (by show 0 + len ≤ len; omega) (g := (mkF m 36 #[.val (.ref a), .val (.ref b), .val (.int (Int32.ofNat o)), .val (.int (Int32.ofNat len)), .val .null, .unset] [.int (Int32.ofNat len), .int (Int32.ofNat o), .ref b])) rfl (by rw [hml]; rfl) c7 (argsL := [.ref b, .int (Int32.ofNat o), .int (Int32.ofNat len)]) (rest := []) rfl rfl (by show 2 * 0 + 0 ≤ _; decide) (hb hbytes d36) (⟨rfl, hA.mv X5.warmed.alike hh5, l1, l2, hp⟩)
  obtain ⟨e8, z8⟩ := E8
  obtain ⟨rfl, N, n1, n2, n3, n4, n5, n6⟩ := NewArr.mv _ T5 s _ _ hh5.symm (Vm.Alike.refl _) rfl e8
  rw [hh5] at z8
  have hB1 := hB.keep X8.warmed.alike (n6 _ _ hB.1)
  have hne : s.heap.size ≠ a := (Nat.ne_of_lt (Array.getElem?_eq_some_iff.mp hB.1).1).symm
  have c9 : Steps p.tables e below (s₁.setTop (entryFrame m #[.ref a, .ref b, .int (Int32.ofNat o), .int (Int32.ofNat len), .null] 6)) (T8.setTop (mkF m 39 #[.val (.ref a), .val (.ref b), .val (.int (Int32.ofNat o)), .val (.int (Int32.ofNat len)), .val .null, .unset] [.ref s.heap.size])) := g8
  have c10 : Steps p.tables e below (s₁.setTop (entryFrame m #[.ref a, .ref b, .int (Int32.ofNat o), .int (Int32.ofNat len), .null] 6)) (T8.setTop (mkF m 45 #[.val (.ref a), .val (.ref b), .val (.int (Int32.ofNat o)), .val (.int (Int32.ofNat len)), .val .null, .val (.ref s.heap.size)] [.int (Int32.ofNat N.slots.size), .ref s.heap.size, .ref a])) := by
    have hc : Steps p.tables e below (s₁.setTop (entryFrame m #[.ref a, .ref b, .int (Int32.ofNat o), .int (Int32.ofNat len), .null] 6)) (T8.setTop (mkF m 45 #[.val (.ref a), .val (.ref b), .val (.int (Int32.ofNat o)), .val (.int (Int32.ofNat len)), .val .null, .val (.ref s.heap.size)] [.int (Int32.ofNat len), .ref s.heap.size, .ref a])) := c9.trans (by
      refine XS.astore X8.here hexec rfl (hb hbytes d39) rfl rfl rfl ?_
      refine XS.aloadN X8.here hexec rfl (hb hbytes d41) rfl rfl ?_
      refine XS.aload X8.here hexec rfl (hb hbytes d42) rfl rfl ?_
      refine XS.iloadN X8.here hexec rfl (hb hbytes d44) rfl ?_
      exact Steps.refl _)
    rw [n4]; exact hc
  obtain ⟨v11, T11, X11, E11, g11⟩ := X8.callS hexec (CodL.law l s.heap.size N) hown (wks W (staticW "java/lang/String" 47 CodL.yN)) (wk W CodL.tab) (W := 1) (Nat.le_of_ble_eq_true rfl) (Nat.le_of_ble_eq_true rfl) (Nat.le_refl _) (by show 0 + len + 0 ≤ len; omega) (g := (mkF m 45 #[.val (.ref a), .val (.ref b), .val (.int (Int32.ofNat o)), .val (.int (Int32.ofNat len)), .val .null, .val (.ref s.heap.size)] [.int (Int32.ofNat N.slots.size), .ref s.heap.size, .ref a])) rfl (by rw [hml]; rfl) c10 (argsL := [.ref s.heap.size, .int (Int32.ofNat N.slots.size)]) (rest := [.ref a]) rfl rfl (by show 2 * 0 + (1 + 0) ≤ _; decide) (hb hbytes d45) (⟨rfl, n1⟩)
  obtain ⟨rfl, q11⟩ := E11
  have hB11 := hB1.mv (X8.warmed.alike.symm.trans X11.warmed.alike) q11
  have c12 : Steps p.tables e below (s₁.setTop (entryFrame m #[.ref a, .ref b, .int (Int32.ofNat o), .int (Int32.ofNat len), .null] 6)) (T11.setTop (mkF m 48 #[.val (.ref a), .val (.ref b), .val (.int (Int32.ofNat o)), .val (.int (Int32.ofNat len)), .val .null, .val (.ref s.heap.size)] [.int 0, .ref a])) := g11
  obtain ⟨T13, X13, p13, bl13, sl13, st13⟩ := X11.finit hexec hown (wk W (.fieldLink "java/lang/String" 15 "java/lang/String" "coder" "B")) (Or.inr ⟨_, (wk W (.laysFinal "java/lang/String" "java/lang/String" "coder" "B"))⟩) (Or.inl ⟨rfl, hnm⟩) f2 (Or.inl rfl) hB11 (t := .byte) (by decide +kernel) rfl (g := (mkF m 48 #[.val (.ref a), .val (.ref b), .val (.int (Int32.ofNat o)), .val (.int (Int32.ofNat len)), .val .null, .val (.ref s.heap.size)] [.int 0, .ref a])) rfl (rest := []) rfl (hb hbytes d48)
  have c14 : Steps p.tables e below (s₁.setTop (entryFrame m #[.ref a, .ref b, .int (Int32.ofNat o), .int (Int32.ofNat len), .null] 6)) (T13.setTop (mkF m 54 #[.val (.ref a), .val (.ref b), .val (.int (Int32.ofNat o)), .val (.int (Int32.ofNat len)), .val .null, .val (.ref s.heap.size)] [.ref s.heap.size, .ref a])) := (c12.trans (st13 _ (Steps.refl _))).trans (by
    refine XS.aloadN X13.here hexec rfl (hb hbytes d51) rfl rfl ?_
    refine XS.aload X13.here hexec rfl (hb hbytes d52) rfl rfl ?_
    exact Steps.refl _)
  obtain ⟨T15, X15, p15, bl15, sl15, st15⟩ := X13.finit hexec hown (wk W (.fieldLink "java/lang/String" 9 "java/lang/String" "value" "[B")) (Or.inr ⟨_, (wk W (.laysFinal "java/lang/String" "java/lang/String" "value" "[B"))⟩) (Or.inl ⟨rfl, hnm⟩) f1 (Or.inl rfl) bl13 (t := (.array .byte)) (by decide +kernel) rfl (g := (mkF m 54 #[.val (.ref a), .val (.ref b), .val (.int (Int32.ofNat o)), .val (.int (Int32.ofNat len)), .val .null, .val (.ref s.heap.size)] [.ref s.heap.size, .ref a])) rfl (rest := []) rfl (hb hbytes d54)
  have c16 : Steps p.tables e below (s₁.setTop (entryFrame m #[.ref a, .ref b, .int (Int32.ofNat o), .int (Int32.ofNat len), .null] 6)) (T15.setTop (mkF m 57 #[.val (.ref a), .val (.ref b), .val (.int (Int32.ofNat o)), .val (.int (Int32.ofNat len)), .val .null, .val (.ref s.heap.size)] [])) := c14.trans (st15 _ (Steps.refl _))
  have ap := apart (Or.inr ⟨_, (wk W (.laysFinal "java/lang/String" "java/lang/String" "value" "[B"))⟩) (Or.inr ⟨_, (wk W (.laysFinal "java/lang/String" "java/lang/String" "coder" "B"))⟩) f1 f2 (t₁ := .array .byte) (t₂ := .byte) (by decide +kernel) (by decide +kernel) (by decide)
  have al := X8.warmed.alike.symm.trans X15.warmed.alike
  have n7 : T11.heap[s.heap.size]? = some N := by rw [q11]; exact n1.1
  exact ⟨T15, none, _, _, _, X15, by simp, rfl, by omega, (fun _ => rfl), ⟨rfl, _, N, bl15, ((Same.refl D _).set _ (by simp)).set _ (by simp), sl15, (Cell.slots_setSlot_ne _ ap).trans sl13, n1.keep al (p15.other hne (p13.other hne n7)), n2, by rw [al.findClass]; exact n3, n4, n5, fun y c h1 h2 => p15.other h1 (p13.other h1 (by rw [q11]; exact n6 y c h2)), by rw [p15.2.2, p13.2.2, q11]; exact z8⟩, fun fs hl => c16.trans (X15.returnOut hexec hret (hb hbytes d57) hl)⟩
end New4
namespace New1
def yN : MethodName := ⟨"java/lang/String", "<init>", "([C)V"⟩
abbrev yB : ByteArray := jdk_42_method_3_code
theorem d0 : decode yB 0 = .ok (.aload_n 0, 1) := by decide +kernel
theorem d1 : decode yB 1 = .ok (.aload_n 1, 1) := by decide +kernel
theorem d2 : decode yB 2 = .ok (.iconst 0, 1) := by decide +kernel
theorem d3 : decode yB 3 = .ok (.aload_n 1, 1) := by decide +kernel
theorem d4 : decode yB 4 = .ok (.arraylength, 1) := by decide +kernel
theorem d5 : decode yB 5 = .ok (.aconst_null, 1) := by decide +kernel
theorem d6 : decode yB 6 = .ok (.invokespecial 27, 3) := by decide +kernel
theorem d9 : decode yB 9 = .ok (.return_, 1) := by decide +kernel
def site : List Cond := [New4.tab] ++ initW "java/lang/String" 27 New4.yN
def tab : Cond := tabOf yN yB 2 none site
def P (a : Addr) (D : Cell) (fV fC : Field) (b : Addr) (A : Cell) (z : Int32) (args : Array Value) (s : State) : Prop := args = #[.ref a, .ref b] ∧ Blank "java/lang/String" a D s ∧ Found "java/lang/String" "value" "[B" fV s ∧ Found "java/lang/String" "coder" "B" fC s ∧ Ch b A s ∧ StaticIs s "java/lang/String" "COMPACT_STRINGS" "Z" (.int z) ∧ ¬ z = 0 ∧ 0 < A.slots.size ∧ A.slots.size ≤ 536870912 ∧ ∀ i, i < A.slots.size → ¬ 255 < cv A i
def E (a : Addr) (D : Cell) (fV fC : Field) (A : Cell) (r : Option Value) (s u : State) : Prop := Got a D fV fC A 0 A.slots.size r s u
/-- new String(chars), not empty, no char above 255: a Latin-1 String of their low bytes -/
theorem law (l : Launch) (a : Addr) (D : Cell) (fV fC : Field) (b : Addr) (A : Cell) (z : Int32) : Law l yN 2 1 3 52 yB 2 none site (P a D fV fC b A z) (E a D fV fC A) [⟨a, fC.slot⟩, ⟨a, fV.slot⟩] 1 A.slots.size := by
  refine Law.of_walk (plainFor_of_name (by decide +kernel)) (by decide +kernel) (by decide +kernel) (by decide) (fun _ _ h => by rw [h.1]; rfl) (fun _ U U' hal hh h => ⟨h.1, h.2.1.mv hal hh, h.2.2.1.al hal, h.2.2.2.1.al hal, h.2.2.2.2.1.mv hal hh, h.2.2.2.2.2.1.there hal hh, h.2.2.2.2.2.2⟩) (fun r U U' V V' h1 hal h2 h => Got.mv r U U' V V' h1 hal h2 h) ?_
  intro p e s m args below meth c s₁ X0 hexec hbytes hml hret hlk hnm hown hh0 W hP
  obtain ⟨rfl, hB, f1, f2, hA, s1, hz, l0, l2, hp⟩ := hP
  have c1 : Steps p.tables e below (s₁.setTop (entryFrame m #[.ref a, .ref b] 2)) (s₁.setTop (mkF m 0 #[.val (.ref a), .val (.ref b)] [])) := entry rfl
  have c2 : Steps p.tables e below (s₁.setTop (entryFrame m #[.ref a, .ref b] 2)) (s₁.setTop (mkF m 6 #[.val (.ref a), .val (.ref b)] [.null, .int (Int32.ofNat A.slots.size), .int 0, .ref b, .ref a])) := c1.trans (by
    refine XS.aloadN X0.here hexec rfl (hb hbytes d0) rfl rfl ?_
    refine XS.aloadN X0.here hexec rfl (hb hbytes d1) rfl rfl ?_
    refine iconstV X0.here hexec rfl 0 (hb hbytes d2) (by decide) ?_
    refine XS.aloadN X0.here hexec rfl (hb hbytes d3) rfl rfl ?_
    refine X0.alen hexec (hA.1.mv X0.warmed.alike hh0) rfl rfl (hb hbytes d4) ?_
    refine XS.aconstNull X0.here hexec rfl (hb hbytes d5) ?_
    exact Steps.refl _)
  obtain ⟨v3, T3, X3, E3, g3⟩ := X0.callN hexec (New4.law l a D fV fC b A z 0 A.slots.size) rfl hown (wks W (initW "java/lang/String" 27 New4.yN)) (W New4.tab (by simp only [site, List.mem_cons, List.mem_append, true_or, or_true])) (W := 0) (Nat.le_of_ble_eq_true rfl) (Nat.le_of_ble_eq_true rfl) (Nat.le_refl _) (by show 0 + A.slots.size ≤ A.slots.size; omega) (g := (mkF m 6 #[.val (.ref a), .val (.ref b)] [.null, .int (Int32.ofNat A.slots.size), .int (Int32.ofNat 0), .ref b, .ref a])) rfl (by rw [hml]; rfl) c2 (argsL := [.ref b, .int (Int32.ofNat 0), .int (Int32.ofNat A.slots.size), .null]) (rest := []) rfl rfl (by show 2 * 0 + 0 ≤ _; decide) (hb hbytes d6) (⟨rfl, hB.mv X0.warmed.alike hh0, f1.al X0.warmed.alike, f2.al X0.warmed.alike, hA.mv X0.warmed.alike hh0, s1.there X0.warmed.alike hh0, hz, l0, by omega, l2, fun i hi => by rw [Nat.zero_add]; exact hp i hi⟩)
  have e0 := Got.mv _ s₁ s _ _ hh0.symm (Vm.Alike.refl _) rfl E3
  obtain rfl := e0.1
  have c4 : Steps p.tables e below (s₁.setTop (entryFrame m #[.ref a, .ref b] 2)) (T3.setTop (mkF m 9 #[.val (.ref a), .val (.ref b)] [])) := g3
  exact ⟨T3, none, _, _, _, X3, by simp, rfl, by omega, (fun _ => rfl), e0, fun fs hl => c4.trans (X3.returnOut hexec hret (hb hbytes d9) hl)⟩
theorem pays {l : Launch} {R : Room} {p : Program} {e : Env} {below : List Frame} {s : State} {sargs : Array Value} {len W : Nat} (a : Addr) (D : Cell) (fV fC : Field) (b : Addr) (A : Cell) (z : Int32) (htab : tab.before sargs s = true) (hfr : 4 ≤ R.frames) (hlo : W + 65 ≤ R.locals) :
    Back l R p e below s sargs yN len W (fun A₁ a₁ => A₁.cells + 1 ≤ R.cells ∧ A₁.slots + A.slots.size ≤ R.slots ∧ P a D fV fC b A z a₁ A₁.U) (fun A₁ _ v₁ B₁ => E a D fV fC A v₁ A₁.U B₁.U ∧ B₁.locs = A₁.locs ++ [⟨a, fC.slot⟩, ⟨a, fV.slot⟩] ∧ B₁.cells = A₁.cells + 1 ∧ B₁.slots = A₁.slots + A.slots.size) :=
  (law l a D fV fC b A z).pays htab hfr (by omega)
end New1
/-- the byte, read back as charAt reads it, is the char -/
theorem lo8_mask {x : Int32} (h0 : ¬ x < 0) (h1 : ¬ 255 < x) : lo8 x &&& 255 = x := by
  have t : ∀ k : Fin 256, lo8 (Int32.ofNat k.val) &&& 255 = Int32.ofNat k.val := by decide +kernel
  rw [Int32.lt_iff_toInt_lt] at h0 h1
  have e0 : (0 : Int32).toInt = 0 := rfl
  have e1 : (255 : Int32).toInt = 255 := rfl
  obtain ⟨k, hk⟩ : ∃ k : Nat, x.toInt = k := ⟨x.toInt.toNat, by omega⟩
  have hx : x = Int32.ofNat k := Int32.toInt_inj.mp (by rw [hk, Int32.toInt_ofNat_small (by omega)])
  rw [hx]
  exact t ⟨k, by omega⟩
end StrChars
namespace StrChars.Road
open Jvm Sem ClassFile Op Lib Jvm.Stand Jvm.Free Jvm.Free.XT
open Jvm.Lib.Cold (StaticIs)
abbrev ST : String := "java/lang/String"
/-- every table word that New1's law asks, flat -/
abbrev words : List Jvm.Cond := [.code New1.yN New1.yB 2 none, .initialized ST, .methodLink ST 27 New4.yN, .instanceMethod New4.yN,
  .code New4.yN New4.yB 6 none, .fieldLink ST 38 ST "COMPACT_STRINGS" "Z", .laysFinal ST ST "value" "[B", .fieldLink ST 9 ST "value" "[B", .laysFinal ST ST "coder" "B", .fieldLink ST 15 ST "coder" "B",
  .methodLink ST 1 Lib.objectInit, .instanceMethod Lib.objectInit, .code Lib.objectInit ⟨#[0xb1]⟩ 1 none, .methodLink ST 177 Cmp3.yN, .static Cmp3.yN, .methodLink ST 47 CodL.yN, .static CodL.yN,
  .code Cmp3.yN Cmp3.yB 6 (some (.array .byte)), .initialized U16, .arrayClass .byte, .methodLink U16 115 Cmp5.yN, .static Cmp5.yN, .code Cmp5.yN Cmp5.yB 7 (some .int), .code CodL.yN CodL.yB 2 (some .byte)]
theorem tab_of {a : Array Value} {s : State} (h : ∀ w ∈ words, w.before a s = true) : New1.tab.before a s = true := by
  have h5 : Cmp5.tab.before a s = true := unparts (wk h (.code Cmp5.yN Cmp5.yB 7 (some .int))) (wks h (.initialized Cmp5.yN.cls :: Cmp5.site))
  have hc : CodL.tab.before a s = true := unparts (wk h (.code CodL.yN CodL.yB 2 (some .byte))) (wks h (.initialized CodL.yN.cls :: CodL.site))
  have q5 : ∀ w ∈ Cmp5.tab :: words, w.before a s = true := fun w hw => (List.mem_cons.mp hw).elim (fun e => e ▸ h5) (h w)
  have h3 : Cmp3.tab.before a s = true := unparts (wk q5 (.code Cmp3.yN Cmp3.yB 6 (some (.array .byte)))) (wks q5 (.initialized Cmp3.yN.cls :: Cmp3.site))
  have q3 : ∀ w ∈ Cmp3.tab :: CodL.tab :: words, w.before a s = true := fun w hw => (List.mem_cons.mp hw).elim (fun e => e ▸ h3) fun hw => (List.mem_cons.mp hw).elim (fun e => e ▸ hc) (h w)
  have h4 : New4.tab.before a s = true := unparts (wk q3 (.code New4.yN New4.yB 6 none)) (wks q3 (.initialized New4.yN.cls :: New4.site))
  have q4 : ∀ w ∈ New4.tab :: words, w.before a s = true := fun w hw => (List.mem_cons.mp hw).elim (fun e => e ▸ h4) (h w)
  exact unparts (wk q4 (.code New1.yN New1.yB 2 none)) (wks q4 (.initialized New1.yN.cls :: New1.site))
/-- the words ride from the start Z to the walk's own state -/
theorem moved {Z s : State} {a0 args : Array Value} (hZ : Z.Warmed39 s.vm) (hw : ∀ d ∈ words, d.before a0 Z = true) : ∀ d ∈ words, d.before args s = true := fun d hd => by
  have q := hw d hd
  have t : ∀ d ∈ words, d = .arrayClass .byte ∨ (d.onTables && d.keepsFace) = true := by decide +kernel
  rcases t d hd with rfl | t
  · exact RoadKit.mvA hZ q
  · exact RoadKit.mv hZ q t
/-- WHAT COMES BACK, over the tables of the start Z: h the heap at the call, h' behind it -/
def Q (Z : State) (x : Addr) (A : Cell) (h : Heap) (v : Option Value) (h' : Heap) (L : List Loc) : Prop := v = none ∧ (∀ y ∈ L, y.base = x) ∧ RoadKit.Keep h h' [x] ∧ h'.size = h.size + 1 ∧ RoadKit.Exa Z h' x ST ∧ RoadKit.Fld Z h' x ST "value" "[B" (.ref h.size) ∧ RoadKit.Fld Z h' x ST "coder" "B" (.int 0) ∧
  (∃ V : Cell, RoadKit.Arr Z h' h.size V .byte ∧ V.vm = .none ∧ Z.vm.findClass "[B" = some V.cls ∧ V.slots.size = A.slots.size ∧ ∀ j, j < A.slots.size → V.slots[j]? = some (.int (lo8 (cv A j)))) ∧
  ∀ (O n d : String) (w : Value), RoadKit.Fld Z h x O n d w → RoadKit.slotOf Z O n d ≠ RoadKit.slotOf Z ST "value" "[B" → RoadKit.slotOf Z O n d ≠ RoadKit.slotOf Z ST "coder" "B" → RoadKit.Fld Z h' x O n d w
/-- **new String(chars) AT A CALL, IN THE ROAD'S FORM**: for specialBack behind newO: x the fresh String, b the char[] with the cell A -/
theorem back {p : Program} {l : Launch} {e : Env} {R : Room} {s : State} {args : Array Value} {below : List Frame} {len W : Nat} {Z : State} {a0 : Array Value} {h : Heap} (hZ : Z.Warmed39 s.vm) (hw : ∀ d ∈ words, d.before a0 Z = true) {kI : Nat} (wi : (Jvm.Cond.instantiable ST kI).before a0 Z = true)
    {x b : Addr} {A : Cell} {z : Int32} {v0 c0 : Value} (E : RoadKit.Exa Z h x ST) (V : RoadKit.Fld Z h x ST "value" "[B" v0) (C : RoadKit.Fld Z h x ST "coder" "B" c0) (K : RoadKit.Arr Z h b A .char) (hty : Typed .char A) (S : RoadKit.Sta Z h ST "COMPACT_STRINGS" "Z" (.int z)) (hz : ¬ z = 0)
    (l0 : 0 < A.slots.size) (l2 : A.slots.size ≤ 536870912) (hp : ∀ i, i < A.slots.size → ¬ 255 < cv A i) (hfr : 4 ≤ R.frames) (hlo : W + 65 ≤ R.locals) :
    Back l R p e below s args New1.yN len W (fun P a => a = #[.ref x, .ref b] ∧ P.U.heap = h ∧ P.cells + 1 ≤ R.cells ∧ P.slots + A.slots.size ≤ R.slots)
      (fun P _ v B => ∃ L, Q Z x A h v B.U.heap L ∧ B.locs = P.locs ++ L ∧ B.cells = P.cells + 1 ∧ B.slots = P.slots + A.slots.size) := by
  intro m meth c P g ig mk a X hg hsize hdg hW hn hp'
  obtain ⟨rfl, rfl, r1, r2⟩ := hp'
  have al : Z.vm.Alike P.U.vm := hZ.alike.trans X.warmed.alike
  obtain ⟨D, cfV, kV, iV, fV, hD, gV, stV, knV, obV, asV, slV⟩ := id V
  obtain ⟨D', cfC, kC, iC, fC, hD', gC, stC, -, -, asC, slC⟩ := id C
  cases hD.symm.trans hD'
  obtain ⟨D2, kD, e1, e2, e3, e4, e5⟩ := id E
  cases hD.symm.trans e1
  obtain ⟨c2, k2, i1, i2, i3, -⟩ := Cond.instantiable_spec wi
  cases e2.symm.trans i1
  cases e3.symm.trans i2
  obtain ⟨kU, u1, u2⟩ := al.2.2 _ _ e3
  have hB : Blank ST x D P.U := ⟨hD, ⟨knV, fun q hq => by rw [hq] at obV; cases obV⟩, by rw [al.findClass]; exact e2, kU, u1, by rw [u2]; exact i3, by rw [u2]; exact e5 i3⟩
  have F1 : Found ST "value" "[B" fV P.U := ⟨SBG.found_only al ⟨cfV, kV, iV, gV⟩, stV⟩
  have F2 : Found ST "coder" "B" fC P.U := ⟨SBG.found_only al ⟨cfC, kC, iC, gC⟩, stC⟩
  have hA : Ch b A P.U := ⟨⟨K.1, State.isArrayOf_alike al K.2.1, K.2.2, by omega⟩, hty⟩
  have hS : StaticIs P.U ST "COMPACT_STRINGS" "Z" (.int z) := by
    obtain ⟨cfS, iS, kS, fS, st, cS, t1, t2, t3, t4, t5, t6, t7⟩ := S
    exact StaticIs.there (s := { Z with heap := P.U.heap }) ⟨cfS, iS, kS, fS, st, cS, t1, t2, t3, t4, t5, (fun q => by rw [q] at t6; cases t6), t7⟩ al rfl
  obtain ⟨v, B, X', ⟨⟨hv, E', V', q1, q2, q3, q4, q5, q6, q7, q8, q9, q10, q11⟩, hl, hc, hs⟩, st⟩ := New1.pays x D fV fC b A z (tab_of (moved hZ hw)) hfr hlo m meth c P g ig mk _ X hg hsize hdg hW hn ⟨r1, r2, rfl, hB, F1, F2, hA, hS, hz, l0, l2, hp⟩
  have al' : Z.vm.Alike B.U.vm := hZ.alike.trans X'.warmed.alike
  have hsz : E'.slots.size = D.slots.size := by
    obtain ⟨-, -, -, kB, w1, w2, w3⟩ := q1
    obtain ⟨kB', y1, y2⟩ := al'.2.2 _ _ e3
    rw [q2.2.1] at w1
    cases w1.symm.trans y1
    rw [w3, e5 i3, y2]
  refine ⟨v, B, X', ⟨_, ⟨hv, ?_, ⟨by omega, fun y cy hy hn' => q10 y cy (by simpa using hn') hy, fun y cy hy => ?_⟩, q11, ⟨E', _, q1.1, by rw [q2.2.1]; exact e2, by rw [q2.2.1]; exact e3, by rw [q2.1]; exact obV, fun _ => by rw [hsz]; exact e5 i3⟩,
    ⟨E', cfV, kV, iV, fV, q1.1, gV, stV, by rw [q2.1]; exact knV, by rw [q2.1]; exact obV, by rw [q2.2.1]; exact asV, q3⟩, ⟨E', cfC, kC, iC, fC, q1.1, gC, stC, by rw [q2.1]; exact knV, by rw [q2.1]; exact obV, by rw [q2.2.1]; exact asC, q4⟩,
    ⟨V', ⟨q5.1, State.isArrayOf_alike al'.symm q5.2.1, q5.2.2.1⟩, q6, by rw [← al'.findClass]; exact q7, q8, fun j hj => by have := q9 j hj; rwa [Nat.zero_add] at this⟩, fun O n d w F n1 n2 => ?_⟩, hl, hc, hs⟩, st⟩
  · intro y hy
    simp only [List.mem_cons, List.not_mem_nil, or_false] at hy
    rcases hy with rfl | rfl <;> rfl
  · by_cases q : y = x
    · subst q
      cases hD.symm.trans hy
      exact ⟨E', q1.1, q2.2.1, q2.1, hsz⟩
    · exact ⟨cy, q10 y cy q hy, rfl, rfl, rfl⟩
  · obtain ⟨D3, cf, k, i, f, g1, g2, g3, g4, g5, g6, g7⟩ := F
    cases hD.symm.trans g1
    simp only [RoadKit.slotOf, g2, gV, gC, Option.map_some, Option.getD_some] at n1 n2
    exact ⟨E', cf, k, i, f, q1.1, g2, g3, by rw [q2.1]; exact g4, by rw [q2.1]; exact g5, by rw [q2.2.1]; exact g6, by rw [q2.2.2 f.slot (by simp [n1, n2])]; exact g7⟩
end StrChars.Road
namespace StrChars.Road
open Jvm Sem ClassFile Op Lib Jvm.Stand Jvm.Free Jvm.Free.XT
/-- WHAT COMES BACK, the byte[] as a list of values -/
def QA (Z : State) (x : Addr) (zn : Int32) (cs : List Int32) (h : Heap) (v : Option Value) (h' : Heap) (L : List Loc) : Prop := v = none ∧ (∀ y ∈ L, y.base = x) ∧ RoadKit.Keep h h' [x] ∧ h'.size = h.size + 1 ∧ RoadKit.Exa Z h' x ST ∧ RoadKit.Fld Z h' x ST "value" "[B" (.ref h.size) ∧ RoadKit.Fld Z h' x ST "coder" "B" (.int 0) ∧
  (∃ kb, Z.vm.findClass "[B" = some kb ∧ RoadKit.Arv Z h' h.size kb .byte zn (cs.map fun c => .int (lo8 c)) (.int 0)) ∧
  ∀ (O n d : String) (w : Value), RoadKit.Fld Z h x O n d w → RoadKit.slotOf Z O n d ≠ RoadKit.slotOf Z ST "value" "[B" → RoadKit.slotOf Z O n d ≠ RoadKit.slotOf Z ST "coder" "B" → RoadKit.Fld Z h' x O n d w
/-- **new String(chars) AT A CALL, THE ARRAYS AS LISTS**: the char[] at b holds cs, not empty, no char above 255 -/
theorem backArv {p : Program} {l : Launch} {e : Env} {R : Room} {s : State} {args : Array Value} {below : List Frame} {len W : Nat} {Z : State} {a0 : Array Value} {h : Heap} (hZ : Z.Warmed39 s.vm) (hw : ∀ d ∈ words, d.before a0 Z = true) {kI : Nat} (wi : (Jvm.Cond.instantiable ST kI).before a0 Z = true)
    {x b : Addr} {k : ClassId} {zn z : Int32} {cs : List Int32} {dv v0 c0 : Value} (E : RoadKit.Exa Z h x ST) (V : RoadKit.Fld Z h x ST "value" "[B" v0) (C : RoadKit.Fld Z h x ST "coder" "B" c0) (K : RoadKit.Arv Z h b k .char zn (cs.map Value.int) dv) (S : RoadKit.Sta Z h ST "COMPACT_STRINGS" "Z" (.int z)) (hz : ¬ z = 0)
    (hlen : zn.toNatClampNeg = cs.length) (h0 : 0 < cs.length) (hbig : cs.length ≤ 536870912) (hall : ∀ c ∈ cs, ¬ 255 < c) (hfr : 4 ≤ R.frames) (hlo : W + 65 ≤ R.locals) :
    Back l R p e below s args New1.yN len W (fun P a => a = #[.ref x, .ref b] ∧ P.U.heap = h ∧ P.cells + 1 ≤ R.cells ∧ P.slots + cs.length ≤ R.slots)
      (fun P _ v B => ∃ L, QA Z x zn cs h v B.U.heap L ∧ B.locs = P.locs ++ L ∧ B.cells = P.cells + 1 ∧ B.slots = P.slots + cs.length) := by
  obtain ⟨A, K1, K2, K3, K4, K5, K6⟩ := K
  have e : A.slots.size = cs.length := K3.trans hlen
  have hat : ∀ (i : Nat) (hi : i < cs.length), A.slots[i]? = some (.int cs[i]) := fun i hi => by rw [K5 i (by omega)]; simp [List.getD_eq_getElem?_getD, hi]
  have hcv : ∀ (i : Nat) (hi : i < cs.length), cv A i = cs[i] := fun i hi => by unfold cv; rw [hat i hi]
  have hty : Typed .char A := fun i v hv => by
    have hi : i < A.slots.size := (Array.getElem?_eq_some_iff.mp hv).1
    have q := K5 i hi
    rw [hv] at q
    rw [Option.some.inj q]
    exact K6 i hi
  refine Back.mono (back hZ hw wi E V C K1 hty S hz (by omega) (by omega) (fun i hi => by rw [hcv i (by omega)]; exact hall _ (List.getElem_mem _)) hfr hlo) (fun P a hp => ⟨hp.1, hp.2.1, hp.2.2.1, by rw [e]; exact hp.2.2.2⟩) (fun P a v B hp hq => ?_)
  obtain ⟨L, ⟨q1, q2, q3, q4, q5, q6, q7, ⟨V', v1, v2, v3, v4, v5⟩, q9⟩, hl, hc, hs⟩ := hq
  refine ⟨L, ⟨q1, q2, q3, q4, q5, q6, q7, ⟨V'.cls, v3, V', v1, rfl, by rw [v4, e, hlen], K4, fun i hi => ?_, fun i hi => ?_⟩, q9⟩, hl, hc, by rw [hs, e]⟩
  · have hi' : i < cs.length := by omega
    rw [v5 i (by omega), hcv i hi']; simp [List.getD_eq_getElem?_getD, hi']
  · have hi' : i < cs.length := by omega
    simp only [List.getD_eq_getElem?_getD, List.getElem?_map, List.getElem?_eq_getElem hi', Option.map_some, Option.getD_some]
    exact fits_lo8 _
end StrChars.Road
namespace StrChars.Road
open Jvm Sem ClassFile Op Lib Jvm.Stand Jvm.Free Jvm.Free.XT
/-- WHAT COMES BACK, in the writer's own shape -/
def QV (Z : State) (x : Addr) (N : Int32) (bs : List Int32) (h : Heap) (n0 : Nat) (v : Option Value) (h' : Heap) (L : List Loc) : Prop := v = none ∧ RoadKit.Fr n0 L ∧ RoadKit.Keep h h' [x] ∧ RoadKit.Exa Z h' x ST ∧ RoadKit.Fld Z h' x ST "coder" "B" (.int 0) ∧
  ∃ (t : Addr) (kb : ClassId), n0 ≤ t ∧ h.size ≤ t ∧ ¬ t = x ∧ RoadKit.Fld Z h' x ST "value" "[B" (.ref t) ∧ RoadKit.Arv Z h' t kb .byte N (bs.map Value.int) (.int 0)
/-- **new String(chars) AT A CALL, FOR THE WRITER**: a char[] of n known ints, each 0 to 255 -/
theorem backV {p : Program} {l : Launch} {e : Env} {R : Room} {s : State} {args : Array Value} {below : List Frame} {len W : Nat} {Z : State} {a0 : Array Value} {h : Heap} (hZ : Z.Warmed39 s.vm) (hw : ∀ d ∈ words, d.before a0 Z = true) {kI : Nat} (wi : (Jvm.Cond.instantiable ST kI).before a0 Z = true)
    {x b : Addr} {kC : ClassId} {cs bs : List Int32} {d v0 c0 : Value} {z N : Int32} {n n0 : Nat} (hx0 : n0 ≤ x) (hh0 : n0 ≤ h.size) (E : RoadKit.Exa Z h x ST) (V : RoadKit.Fld Z h x ST "value" "[B" v0) (C : RoadKit.Fld Z h x ST "coder" "B" c0) (K : RoadKit.Arv Z h b kC .char N (cs.map Value.int) d) (S : RoadKit.Sta Z h ST "COMPACT_STRINGS" "Z" (.int z)) (hz : ¬ z = 0)
    (hn : cs.length = n) (hN : N = Int32.ofNat n) (l0 : 0 < n) (l2 : n ≤ 4000) (hp : ∀ c ∈ cs, ¬ c < 0 ∧ ¬ (255 : Int32) < c) (hb : bs = cs.map (fun c => c.toInt8.toInt32)) (hfr : 4 ≤ R.frames) (hlo : W + 65 ≤ R.locals) :
    Back l R p e below s args (⟨"java/lang/String", "<init>", "([C)V"⟩ : MethodName) len W (fun P a => a = #[.ref x, .ref b] ∧ P.U.heap = h ∧ P.cells + 1 ≤ R.cells ∧ P.slots + n ≤ R.slots)
      (fun P _ v B => ∃ L, QV Z x N bs h n0 v B.U.heap L ∧ B.locs = P.locs ++ L ∧ B.cells = P.cells + 1 ∧ B.slots = P.slots + n) := by
  subst hn hN hb
  refine Back.mono (backArv hZ hw wi E V C K S hz (n32 (by omega)) l0 (by omega) (fun c hc => (hp c hc).2) hfr hlo) (fun P a hp => hp) (fun P a v B hp hq => ?_)
  obtain ⟨L, ⟨q1, q2, q3, q4, q5, q6, q7, ⟨kb, v1, v2⟩, q9⟩, hl, hc, hs⟩ := hq
  exact ⟨L, ⟨q1, fun y hy => by rw [q2 y hy]; exact hx0, q3, q5, q7, h.size, kb, hh0, Nat.le_refl _, Nat.ne_of_gt E.lt, q6, by rw [List.map_map]; exact v2⟩, hl, hc, hs⟩
end StrChars.Road
namespace StrChars
open Jvm Sem ClassFile Op Lib Jvm.Stand Jvm.Free.XT Jvm.Free.ALB Jvm.Free.JM Jvm.Free
open Jvm.Lib.Cold (StaticIs)
def hi8 (x : Int32) : Int32 := lo8 (x >>> ((8 : Int32) &&& 31))
/-- what StringUTF16.getChar makes of two bytes -/
def pairCh (u v : Int32) : Int32 := (((u &&& 255) <<< ((0 : Int32) &&& 31)) ||| ((v &&& 255) <<< ((8 : Int32) &&& 31))).toUInt32.toUInt16.toUInt32.toInt32
theorem shr0 (c : Int32) : c >>> ((0 : Int32) &&& 31) = c := by
  have e : ((0 : Int32) &&& 31) = 0 := by decide
  rw [e]
  apply Int32.toBitVec_inj.mp
  rw [Int32.toBitVec_shiftRight]
  have e1 : ((0 : Int32).toBitVec.smod 32) = 0#32 := by decide
  rw [e1, BitVec.sshiftRight_eq']
  exact BitVec.sshiftRight_zero
theorem lo8_and (x : Int32) : (lo8 x &&& 255).toBitVec.toNat = x.toBitVec.toNat % 256 := by
  have h : (lo8 x).toBitVec = (x.toBitVec.signExtend 8).signExtend 32 := by rw [lo8, Int8.toBitVec_toInt32, Int32.toBitVec_toInt8]
  rw [Int32.toBitVec_and, BitVec.toNat_and, h]
  have e : ((x.toBitVec.signExtend 8).signExtend 32).toNat % 256 = x.toBitVec.toNat % 256 := by
    rw [BitVec.toNat_signExtend]
    have hlt := x.toBitVec.isLt
    simp only [BitVec.toNat_setWidth, BitVec.toNat_signExtend]
    split <;> split <;> omega
  rw [← e]
  exact Nat.and_two_pow_sub_one_eq_mod _ 8
theorem pair_says {c : Int32} (h0 : ¬ c < 0) (h1 : ¬ 65535 < c) : pairCh (lo8 c) (hi8 c) = c := by
  rw [Int32.lt_iff_toInt_lt] at h0 h1
  have e0 : (0 : Int32).toInt = 0 := rfl
  have e1 : (65535 : Int32).toInt = 65535 := rfl
  have hc : c.toInt = c.toBitVec.toNat := by
    have := c.toBitVec.isLt
    have e : c.toInt = c.toBitVec.toInt := rfl
    rw [e] at h0 h1
    rw [e]
    rw [BitVec.toInt_eq_toNat_cond] at h0 h1 ⊢
    split at h0 <;> split <;> omega
  have hn : c.toBitVec.toNat < 65536 := by omega
  have a1 := lo8_and c
  have a2 : (hi8 c &&& 255).toBitVec.toNat = c.toBitVec.toNat / 256 := by
    rw [hi8, lo8_and]
    have e : ((8 : Int32) &&& 31) = 8 := by decide
    rw [e, Int32.toBitVec_shiftRight]
    have e2 : ((8 : Int32).toBitVec.smod 32) = 8#32 := by decide
    rw [e2, BitVec.sshiftRight_eq', BitVec.toNat_sshiftRight_of_msb_false (by rw [BitVec.msb_eq_false_iff_two_mul_lt]; omega)]
    show c.toBitVec.toNat >>> 8 % 256 = _
    rw [Nat.shiftRight_eq_div_pow]
    omega
  unfold pairCh
  apply Int32.toBitVec_inj.mp
  apply BitVec.eq_of_toNat_eq
  have f0 : ((0 : Int32) &&& 31) = 0 := by decide
  have f8 : ((8 : Int32) &&& 31) = 8 := by decide
  rw [f0, f8]
  have g : (((lo8 c &&& 255) <<< (0 : Int32)) ||| ((hi8 c &&& 255) <<< (8 : Int32))).toBitVec.toNat = c.toBitVec.toNat := by
    rw [Int32.toBitVec_or, Int32.toBitVec_shiftLeft, Int32.toBitVec_shiftLeft]
    have s0 : ((0 : Int32).toBitVec.smod 32) = 0#32 := by decide
    have s8 : ((8 : Int32).toBitVec.smod 32) = 8#32 := by decide
    rw [s0, s8, BitVec.toNat_or]
    simp only [BitVec.shiftLeft_eq', BitVec.toNat_shiftLeft, a1, a2]
    show (c.toBitVec.toNat % 256) <<< 0 % 2 ^ 32 ||| (c.toBitVec.toNat / 256) <<< 8 % 2 ^ 32 = _
    rw [Nat.shiftLeft_zero, Nat.mod_eq_of_lt (show c.toBitVec.toNat % 256 < 2 ^ 32 by omega), Nat.mod_eq_of_lt (show (c.toBitVec.toNat / 256) <<< 8 < 2 ^ 32 by rw [Nat.shiftLeft_eq]; omega), Nat.or_comm, ← Nat.shiftLeft_add_eq_or_of_lt (by omega), Nat.shiftLeft_eq]
    omega
  show BitVec.toNat (((((lo8 c &&& 255) <<< (0 : Int32)) ||| ((hi8 c &&& 255) <<< (8 : Int32))).toBitVec.setWidth 16).setWidth 32) = _
  rw [BitVec.toNat_setWidth, BitVec.toNat_setWidth, g]
  omega
end StrChars
namespace StrChars
open Jvm Sem ClassFile Op Lib Jvm.Stand Jvm.Free.XT Jvm.Free.ALB Jvm.Free.JM Jvm.Free
open Jvm.Lib.Cold (StaticIs)
theorem shr1 {n : Nat} (h : 2 * n < 2 ^ 31) : Int32.ofNat (2 * n) >>> ((1 : Int32) &&& 31) = Int32.ofNat n := by
  have e : ((1 : Int32) &&& 31) = 1 := by decide
  rw [e]
  apply Int32.toBitVec_inj.mp
  rw [Int32.toBitVec_shiftRight]
  have e1 : ((1 : Int32).toBitVec.smod 32) = 1#32 := by decide
  have hm : (BitVec.ofNat 32 (2 * n)).toNat = 2 * n := by rw [BitVec.toNat_ofNat, Nat.mod_eq_of_lt (by omega)]
  rw [e1, BitVec.sshiftRight_eq']
  apply BitVec.eq_of_toNat_eq
  show ((BitVec.ofNat 32 (2 * n)).sshiftRight 1).toNat = (BitVec.ofNat 32 n).toNat
  rw [BitVec.toNat_sshiftRight_of_msb_false (by rw [BitVec.msb_eq_false_iff_two_mul_lt, hm]; omega), hm, BitVec.toNat_ofNat, Nat.shiftRight_eq_div_pow]
  omega
/-- the array's cell V codes the n chars f 0 .. f (n - 1) by the coder cd, as the JDK does: coder 1 just where some char is above 255 -/
def Cod (cd : Int32) (n : Nat) (f : Nat → Int32) (V : Cell) : Prop := (cd = 0 ∧ V.slots.size = n ∧ ∀ j, j < n → V.slots[j]? = some (.int (lo8 (f j))) ∧ ¬ 255 < f j) ∨ (cd = 1 ∧ V.slots.size = 2 * n ∧ (∀ j, j < n → V.slots[2 * j]? = some (.int (lo8 (f j))) ∧ V.slots[2 * j + 1]? = some (.int (hi8 (f j)))) ∧ ∃ j, j < n ∧ 255 < f j)
theorem Cod.cd {cd : Int32} {n : Nat} {f : Nat → Int32} {V : Cell} (h : Cod cd n f V) : cd = 0 ∨ cd = 1 := h.imp (fun q => q.1) fun q => q.1
theorem Cod.len {cd : Int32} {n : Nat} {f : Nat → Int32} {V : Cell} (h : Cod cd n f V) (hs : V.slots.size < 2 ^ 31) : Int32.ofNat V.slots.size >>> (cd &&& 31) = Int32.ofNat n := by
  rcases h with ⟨rfl, h, -⟩ | ⟨rfl, h, -⟩
  · rw [shr0, h]
  · rw [h, shr1 (by omega)]
/-- **x is a String of the n chars f 0 .. f (n - 1)**, Latin-1 or UTF-16; its array at t has the cell V -/
def Txt (x t : Addr) (V : Cell) (cd : Int32) (n : Nat) (f : Nat → Int32) (U : State) : Prop := Exact "java/lang/String" x U ∧ Has x "java/lang/String" "value" "[B" (.ref t) U ∧ Has x "java/lang/String" "coder" "B" (.int cd) U ∧ XT.Arr .byte t V U ∧ Cod cd n f V ∧ ∀ j, j < n → ¬ f j < 0 ∧ ¬ 65535 < f j
theorem Txt.mv {x t : Addr} {V : Cell} {cd : Int32} {n : Nat} {f : Nat → Int32} {U U' : State} (h : Txt x t V cd n f U) (hal : U.vm.Alike U'.vm) (hh : U'.heap = U.heap) : Txt x t V cd n f U' := ⟨h.1.mv hal hh, h.2.1.mv hal hh, h.2.2.1.mv hal hh, h.2.2.2.1.mv hal hh, h.2.2.2.2⟩
namespace Cdr
def yN : MethodName := ⟨"java/lang/String", "coder", "()B"⟩
abbrev yB : ByteArray := jdk_42_method_152_code
theorem d0 : decode yB 0 = .ok (.getstatic 38, 3) := by decide +kernel
theorem d3 : decode yB 3 = .ok (.ifCond (.eq) 10, 3) := by decide +kernel
theorem d6 : decode yB 6 = .ok (.aload_n 0, 1) := by decide +kernel
theorem d7 : decode yB 7 = .ok (.getfield 15, 3) := by decide +kernel
theorem d10 : decode yB 10 = .ok (.goto 4, 3) := by decide +kernel
theorem d14 : decode yB 14 = .ok (.ireturn, 1) := by decide +kernel
def site : List Cond := [.fieldLink "java/lang/String" 38 "java/lang/String" "COMPACT_STRINGS" "Z", .fieldLink "java/lang/String" 15 "java/lang/String" "coder" "B"]
def tab : Cond := tabOf yN yB 1 (some .byte) site
def P (x : Addr) (cd z : Int32) (args : Array Value) (s : State) : Prop := args = #[.ref x] ∧ Has x "java/lang/String" "coder" "B" (.int cd) s ∧ (cd = 0 ∨ cd = 1) ∧ StaticIs s "java/lang/String" "COMPACT_STRINGS" "Z" (.int z) ∧ ¬ z = 0
def E (cd : Int32) (r : Option Value) (s u : State) : Prop := XT.PureE (some (.int cd)) r s u
theorem law (l : Launch) (x : Addr) (cd z : Int32) : Law l yN 1 0 0 0 yB 1 (some .byte) site (P x cd z) (E cd) [] 0 0 := by
  refine Law.of_walk (plainFor_of_name (by decide +kernel)) (by decide +kernel) (by decide +kernel) (by decide) (fun _ _ h => by rw [h.1]; rfl) (fun _ U U' hal hh h => ⟨h.1, h.2.1.mv hal hh, h.2.2.1, h.2.2.2.1.there hal hh, h.2.2.2.2⟩) (fun r U U' V V' h1 hal h2 h => XT.PureE.mv r U U' V V' h1 hal h2 h) ?_
  intro p e s m args below meth c s₁ X0 hexec hbytes hml hret hlk hnm hown hh0 W hP
  obtain ⟨rfl, hx, hc, s1, hz⟩ := hP
  have c1 : Steps p.tables e below (s₁.setTop (entryFrame m #[.ref x] 1)) (s₁.setTop (mkF m 0 #[.val (.ref x)] [])) := entry rfl
  obtain ⟨T2, X2, q2, st2⟩ := X0.sget hexec hown (wk W (.fieldLink "java/lang/String" 38 "java/lang/String" "COMPACT_STRINGS" "Z")) s1 (fun _ _ h => by rw [hh0]; exact h) (g := (mkF m 0 #[.val (.ref x)] [])) rfl (hb hbytes d0)
  have hh2 := q2.trans hh0
  have c3 : Steps p.tables e below (s₁.setTop (entryFrame m #[.ref x] 1)) (T2.setTop (mkF m 7 #[.val (.ref x)] [.ref x])) := (c1.trans (st2 _ (Steps.refl _))).trans (by
    refine XS.ifNo X2.here hexec rfl (hb hbytes d3) rfl (i0_eq_f hz) ?_
    refine XS.aloadN X2.here hexec rfl (hb hbytes d6) rfl rfl ?_
    exact Steps.refl _)
  obtain ⟨T4, X4, q4, st4⟩ := X2.hget hexec hown (wk W (.fieldLink "java/lang/String" 15 "java/lang/String" "coder" "B")) (hx.mv X2.warmed.alike hh2) (g := (mkF m 7 #[.val (.ref x)] [.ref x])) rfl (rest := []) rfl (hb hbytes d7)
  have c5 : Steps p.tables e below (s₁.setTop (entryFrame m #[.ref x] 1)) (T4.setTop (mkF m 14 #[.val (.ref x)] [.int cd])) := (c3.trans (st4 _ (Steps.refl _))).trans (by
    refine XS.goto X4.here hexec rfl (pc0 := 10) rfl (hb hbytes d10) (by decide) rfl ?_
    exact Steps.refl _)
  exact ⟨T4, some (.int cd), _, _, _, X4, rfl, rfl, rfl, (fun h => by cases h), ⟨rfl, q4.trans hh2⟩, fun fs hl => c5.trans (X4.ireturnOut hexec hret (by rcases hc with rfl | rfl <;> rfl) (Or.inr (Or.inr (Or.inl rfl))) (hb hbytes d14) hl)⟩
end Cdr
namespace Len
def yN : MethodName := ⟨"java/lang/String", "length", "()I"⟩
abbrev yB : ByteArray := jdk_42_method_54_code
theorem d0 : decode yB 0 = .ok (.aload_n 0, 1) := by decide +kernel
theorem d1 : decode yB 1 = .ok (.getfield 9, 3) := by decide +kernel
theorem d4 : decode yB 4 = .ok (.arraylength, 1) := by decide +kernel
theorem d5 : decode yB 5 = .ok (.aload_n 0, 1) := by decide +kernel
theorem d6 : decode yB 6 = .ok (.invokevirtual 335, 3) := by decide +kernel
theorem d9 : decode yB 9 = .ok (.ishr, 1) := by decide +kernel
theorem d10 : decode yB 10 = .ok (.ireturn, 1) := by decide +kernel
def site : List Cond := [.fieldLink "java/lang/String" 9 "java/lang/String" "value" "[B", Cdr.tab] ++ virtW "java/lang/String" 335 "java/lang/String" Cdr.yN Cdr.yN
def tab : Cond := tabOf yN yB 1 (some .int) site
def P (x t : Addr) (V : Cell) (cd : Int32) (n : Nat) (f : Nat → Int32) (z : Int32) (args : Array Value) (s : State) : Prop := args = #[.ref x] ∧ Txt x t V cd n f s ∧ StaticIs s "java/lang/String" "COMPACT_STRINGS" "Z" (.int z) ∧ ¬ z = 0
def E (n : Nat) (r : Option Value) (s u : State) : Prop := XT.PureE (some (.int (Int32.ofNat n))) r s u
/-- length() of a String of n chars, in either coding -/
theorem law (l : Launch) (x t : Addr) (V : Cell) (cd : Int32) (n : Nat) (f : Nat → Int32) (z : Int32) : Law l yN 1 0 1 13 yB 1 (some .int) site (P x t V cd n f z) (E n) [] 0 0 := by
  refine Law.of_walk (plainFor_of_name (by decide +kernel)) (by decide +kernel) (by decide +kernel) (by decide) (fun _ _ h => by rw [h.1]; rfl) (fun _ U U' hal hh h => ⟨h.1, h.2.1.mv hal hh, h.2.2.1.there hal hh, h.2.2.2⟩) (fun r U U' V V' h1 hal h2 h => XT.PureE.mv r U U' V V' h1 hal h2 h) ?_
  intro p e s m args below meth c s₁ X0 hexec hbytes hml hret hlk hnm hown hh0 W hP
  obtain ⟨rfl, hx, s1, hz⟩ := hP
  have v31 := hx.2.2.2.1.2.2.2
  have c1 : Steps p.tables e below (s₁.setTop (entryFrame m #[.ref x] 1)) (s₁.setTop (mkF m 1 #[.val (.ref x)] [.ref x])) := Steps.trans (entry rfl) (by
    show Steps p.tables e below (s₁.setTop (mkF m 0 #[.val (.ref x)] [])) _
    refine XS.aloadN X0.here hexec rfl (hb hbytes d0) rfl rfl ?_
    exact Steps.refl _)
  obtain ⟨T2, X2, q2, st2⟩ := X0.hget hexec hown (wk W (.fieldLink "java/lang/String" 9 "java/lang/String" "value" "[B")) (hx.mv X0.warmed.alike hh0).2.1 (g := (mkF m 1 #[.val (.ref x)] [.ref x])) rfl (rest := []) rfl (hb hbytes d1)
  have hh2 := q2.trans hh0
  have hx2 := hx.mv X2.warmed.alike hh2
  have c3 : Steps p.tables e below (s₁.setTop (entryFrame m #[.ref x] 1)) (T2.setTop (mkF m 6 #[.val (.ref x)] [.ref x, .int (Int32.ofNat V.slots.size)])) := (c1.trans (st2 _ (Steps.refl _))).trans (by
    refine X2.alen hexec hx2.2.2.2.1 rfl rfl (hb hbytes d4) ?_
    refine XS.aloadN X2.here hexec rfl (hb hbytes d5) rfl rfl ?_
    exact Steps.refl _)
  obtain ⟨v4, T4, X4, E4, g4⟩ := X2.callV hexec (Cdr.law l x cd z) hown (wks W (virtW "java/lang/String" 335 "java/lang/String" Cdr.yN Cdr.yN)) rfl (by decide) (wk W Cdr.tab) (W := 1) (Nat.le_of_ble_eq_true rfl) (Nat.le_of_ble_eq_true rfl) (Nat.le_refl _) (Nat.le_refl _) (hx2.1.fc X2.warmed.alike) hx2.1.is (g := (mkF m 6 #[.val (.ref x)] [.ref x, .int (Int32.ofNat V.slots.size)])) rfl (by rw [hml]; rfl) c3 (argsL := []) (rest := [.int (Int32.ofNat V.slots.size)]) rfl rfl (by show 2 * 0 + (1 + 0) ≤ _; decide) (hb hbytes d6) (⟨rfl, hx2.2.2.1, hx.2.2.2.2.1.cd, s1.there X2.warmed.alike hh2, hz⟩)
  obtain ⟨rfl, q4⟩ := E4
  have c5 : Steps p.tables e below (s₁.setTop (entryFrame m #[.ref x] 1)) (T4.setTop (mkF m 10 #[.val (.ref x)] [.int (Int32.ofNat V.slots.size >>> (cd &&& 31))])) := Steps.trans g4 (by
    refine ishr X4.here hexec rfl (hb hbytes d9) rfl ?_
    exact Steps.refl _)
  rw [hx.2.2.2.2.1.len v31] at c5
  exact ⟨T4, some (.int (Int32.ofNat n)), _, _, _, X4, rfl, rfl, rfl, (fun h => by cases h), ⟨rfl, q4.trans hh2⟩, fun fs hl => c5.trans (X4.ireturnOut hexec hret rfl (Or.inl rfl) (hb hbytes d10) hl)⟩
theorem pays {l : Launch} {R : Room} {p : Program} {e : Env} {below : List Frame} {s : State} {sargs : Array Value} {len W : Nat} (x t : Addr) (V : Cell) (cd : Int32) (n : Nat) (f : Nat → Int32) (z : Int32) (htab : tab.before sargs s = true) (hfr : 2 ≤ R.frames) (hlo : W + 25 ≤ R.locals) :
    Back l R p e below s sargs yN len W (fun A₁ a₁ => A₁.cells + 0 ≤ R.cells ∧ A₁.slots + 0 ≤ R.slots ∧ P x t V cd n f z a₁ A₁.U) (fun A₁ _ v₁ B₁ => E n v₁ A₁.U B₁.U ∧ B₁.locs = A₁.locs ++ [] ∧ B₁.cells = A₁.cells + 0 ∧ B₁.slots = A₁.slots + 0) :=
  (law l x t V cd n f z).pays htab hfr (by omega)
end Len
end StrChars
namespace StrChars.Road
open Jvm Sem ClassFile Op Lib Jvm.Stand Jvm.Free Jvm.Free.XT
open Jvm.Lib.Cold (StaticIs)
theorem consq {a : Array Value} {s : State} {c : Jvm.Cond} {L : List Jvm.Cond} (h0 : c.before a s = true) (h : ∀ w ∈ L, w.before a s = true) : ∀ w ∈ c :: L, w.before a s = true := fun w hw => (List.mem_cons.mp hw).elim (fun e => e ▸ h0) (h w)
/-- the words of String.length(), either coding -/
abbrev wordsLen : List Jvm.Cond := [.code Len.yN Len.yB 1 (some .int), .initialized ST, .fieldLink ST 9 ST "value" "[B", .fieldLink ST 38 ST "COMPACT_STRINGS" "Z", .fieldLink ST 15 ST "coder" "B", .code Cdr.yN Cdr.yB 1 (some .byte), .methodLink ST 335 Cdr.yN, .declares Cdr.yN, .selects ST Cdr.yN Cdr.yN, .instanceMethod Cdr.yN]
theorem tabLen_of {a : Array Value} {s : State} (h : ∀ w ∈ wordsLen, w.before a s = true) : Len.tab.before a s = true := by
  have hc : Cdr.tab.before a s = true := unparts (wk h (.code Cdr.yN Cdr.yB 1 (some .byte))) (wks h (.initialized Cdr.yN.cls :: Cdr.site))
  have q := consq hc h
  exact unparts (wk q (.code Len.yN Len.yB 1 (some .int))) (wks q (.initialized Len.yN.cls :: Len.site))
theorem movedLen {Z s : State} {a0 args : Array Value} (hZ : Z.Warmed39 s.vm) (hw : ∀ d ∈ wordsLen, d.before a0 Z = true) : ∀ d ∈ wordsLen, d.before args s = true := fun d hd => by
  have q := hw d hd
  have t : ∀ d ∈ wordsLen, d = .arrayClass .byte ∨ (d.onTables && d.keepsFace) = true := by decide +kernel
  rcases t d hd with rfl | t
  · exact RoadKit.mvA hZ q
  · exact RoadKit.mv hZ q t
/-- the bytes of the chars cs, low before high -/
def wideBytes : List Int32 → List Value
  | [] => []
  | c :: cs => .int (lo8 c) :: .int (hi8 c) :: wideBytes cs
theorem wide_lo (d : Value) : ∀ (cs : List Int32) (j : Nat), j < cs.length → (wideBytes cs).getD (2 * j) d = .int (lo8 (cs.getD j 0))
  | [], j, h => absurd h (Nat.not_lt_zero j)
  | c :: cs, 0, _ => rfl
  | c :: cs, j + 1, h => by
    have q := wide_lo d cs j (by simpa using h)
    rw [show 2 * (j + 1) = 2 * j + 1 + 1 from by omega]
    simpa [wideBytes] using q
theorem wide_hi (d : Value) : ∀ (cs : List Int32) (j : Nat), j < cs.length → (wideBytes cs).getD (2 * j + 1) d = .int (hi8 (cs.getD j 0))
  | [], j, h => absurd h (Nat.not_lt_zero j)
  | c :: cs, 0, _ => rfl
  | c :: cs, j + 1, h => by
    have q := wide_hi d cs j (by simpa using h)
    rw [show 2 * (j + 1) + 1 = 2 * j + 1 + 1 + 1 from by omega]
    simpa [wideBytes] using q
theorem low_at (d : Value) (cs : List Int32) (j : Nat) (h : j < cs.length) : (cs.map fun c => Value.int (lo8 c)).getD j d = .int (lo8 (cs.getD j 0)) := by
  simp [List.getD_eq_getElem?_getD, h]
/-- an array of N2 bytes vs codes the chars cs by the coder cd -/
def CodA (cs : List Int32) (cd N2 : Int32) (vs : List Value) : Prop := (cd = 0 ∧ N2 = Int32.ofNat cs.length ∧ vs = (cs.map fun c => Value.int (lo8 c)) ∧ ∀ c ∈ cs, ¬ 255 < c) ∨ (cd = 1 ∧ N2 = Int32.ofNat (2 * cs.length) ∧ vs = wideBytes cs ∧ ∃ c ∈ cs, 255 < c)
theorem CodA.cod {cs : List Int32} {cd N2 : Int32} {vs : List Value} {V : Cell} (h : CodA cs cd N2 vs) (hn : 2 * cs.length < 2 ^ 31) (hs : V.slots.size = N2.toNatClampNeg) (hv : RoadKit.Has V vs (.int 0)) : Cod cd cs.length (fun j => cs.getD j 0) V := by
  rcases h with ⟨rfl, rfl, rfl, h⟩ | ⟨rfl, rfl, rfl, c, hc, hw⟩
  · rw [n32 (by omega)] at hs
    exact Or.inl ⟨rfl, hs, fun j hj => ⟨by rw [hv j (by omega), low_at _ _ _ hj], by
      have e : cs.getD j 0 = cs[j] := by simp [List.getD_eq_getElem?_getD, hj]
      show ¬ 255 < cs.getD j 0
      rw [e]; exact h _ (List.getElem_mem _)⟩⟩
  · rw [n32 (by omega)] at hs
    obtain ⟨j, hj, rfl⟩ := List.getElem_of_mem hc
    exact Or.inr ⟨rfl, hs, fun j hj => ⟨by rw [hv _ (by omega), wide_lo _ _ _ hj], by rw [hv _ (by omega), wide_hi _ _ _ hj]⟩, j, hj, by
      have e : cs.getD j 0 = cs[j] := by simp [List.getD_eq_getElem?_getD, hj]
      show 255 < cs.getD j 0
      rw [e]; exact hw⟩
/-- an object of exactly java/lang/String, its two fields found: as the laws ask it -/
theorem strObj {Z U : State} {a0 : Array Value} {kI : Nat} (wi : (Jvm.Cond.instantiable ST kI).before a0 Z = true) (al : Z.vm.Alike U.vm) {x : Addr} {v0 c0 : Value} (E : RoadKit.Exa Z U.heap x ST) (V : RoadKit.Fld Z U.heap x ST "value" "[B" v0) (C : RoadKit.Fld Z U.heap x ST "coder" "B" c0) :
    ∃ (D : Cell) (fV fC : Field), Blank ST x D U ∧ Found ST "value" "[B" fV U ∧ Found ST "coder" "B" fC U ∧ D.slots[fV.slot]? = some v0 ∧ D.slots[fC.slot]? = some c0 ∧ RoadKit.slotOf Z ST "value" "[B" = fV.slot ∧ RoadKit.slotOf Z ST "coder" "B" = fC.slot := by
  obtain ⟨D, cfV, kV, iV, fV, hD, gV, stV, knV, obV, asV, slV⟩ := V
  obtain ⟨D', cfC, kC, iC, fC, hD', gC, stC, -, -, asC, slC⟩ := C
  cases hD.symm.trans hD'
  obtain ⟨D2, kD, e1, e2, e3, e4, e5⟩ := E
  cases hD.symm.trans e1
  obtain ⟨c2, k2, i1, i2, i3, -⟩ := Cond.instantiable_spec wi
  cases e2.symm.trans i1
  cases e3.symm.trans i2
  obtain ⟨kU, u1, u2⟩ := al.2.2 _ _ e3
  exact ⟨D, fV, fC, ⟨hD, ⟨knV, fun q hq => by rw [hq] at obV; cases obV⟩, by rw [al.findClass]; exact e2, kU, u1, by rw [u2]; exact i3, by rw [u2]; exact e5 i3⟩, ⟨SBG.found_only al ⟨cfV, kV, iV, gV⟩, stV⟩, ⟨SBG.found_only al ⟨cfC, kC, iC, gC⟩, stC⟩, slV, slC, by simp [RoadKit.slotOf, gV], by simp [RoadKit.slotOf, gC]⟩
theorem sta_is {Z U : State} (al : Z.vm.Alike U.vm) {C n d : String} {v : Value} (S : RoadKit.Sta Z U.heap C n d v) : StaticIs U C n d v := by
  obtain ⟨cfS, iS, kS, fS, st, cS, t1, t2, t3, t4, t5, t6, t7⟩ := S
  exact StaticIs.there (s := { Z with heap := U.heap }) ⟨cfS, iS, kS, fS, st, cS, t1, t2, t3, t4, t5, (fun q => by rw [q] at t6; cases t6), t7⟩ al rfl
/-- **length() OF SUCH A STRING** -/
theorem lenW {p : Program} {l : Launch} {e : Env} {R : Room} {s : State} {args : Array Value} {below : List Frame} {len W : Nat} {Z : State} {a0 : Array Value} {h : Heap} (hZ : Z.Warmed39 s.vm) (hw : ∀ d ∈ wordsLen, d.before a0 Z = true) {kI : Nat} (wi : (Jvm.Cond.instantiable ST kI).before a0 Z = true)
    {x t : Addr} {kb : ClassId} {cs : List Int32} {cd N2 z : Int32} {vs : List Value} (E : RoadKit.Exa Z h x ST) (V : RoadKit.Fld Z h x ST "value" "[B" (.ref t)) (C : RoadKit.Fld Z h x ST "coder" "B" (.int cd)) (K : RoadKit.Arv Z h t kb .byte N2 vs (.int 0)) (hc : CodA cs cd N2 vs) (hb : ∀ c ∈ cs, ¬ c < 0 ∧ ¬ (65535 : Int32) < c)
    (S : RoadKit.Sta Z h ST "COMPACT_STRINGS" "Z" (.int z)) (hz : ¬ z = 0) (l2 : cs.length ≤ 4000) (hfr : 2 ≤ R.frames) (hlo : W + 25 ≤ R.locals) :
    Back l R p e below s args (⟨"java/lang/String", "length", "()I"⟩ : MethodName) len W (fun P a => a = #[.ref x] ∧ P.U.heap = h ∧ P.cells + 0 ≤ R.cells ∧ P.slots + 0 ≤ R.slots)
      (fun P _ v B => ∃ L, (v = some (.int (Int32.ofNat cs.length)) ∧ L = [] ∧ B.U.heap = h) ∧ B.locs = P.locs ++ L ∧ B.cells = P.cells + 0 ∧ B.slots = P.slots + 0) := by
  obtain ⟨A, K1, K2, K3, K4, K5, K6⟩ := K
  have hcod := hc.cod (by omega) K3 K5
  intro m meth c P g ig mk a X hg hsize hdg hW hn hp'
  obtain ⟨rfl, rfl, r1, r2⟩ := hp'
  have al : Z.vm.Alike P.U.vm := hZ.alike.trans X.warmed.alike
  obtain ⟨D, fV, fC, hB, F1, F2, g1, g2, -, -⟩ := strObj wi al E V C
  have hx : Txt x t A cd cs.length (fun j => cs.getD j 0) P.U := ⟨⟨_, hB.2.2.1, D, hB.1, rfl, by cases q : D.vm <;> first | rfl | exact absurd q (hB.2.1.2 _)⟩, Has.of hB F1 g1, Has.of hB F2 g2, ⟨K1.1, State.isArrayOf_alike al K1.2.1, K1.2.2, by rcases hcod with ⟨-, q, -⟩ | ⟨-, q, -⟩ <;> omega⟩, hcod, fun j hj => by
    have e : cs.getD j 0 = cs[j] := by simp [List.getD_eq_getElem?_getD, hj]
    show ¬ cs.getD j 0 < 0 ∧ ¬ 65535 < cs.getD j 0
    rw [e]; exact hb _ (List.getElem_mem _)⟩
  obtain ⟨v, B, X', ⟨⟨hv, hh⟩, hl, hk, hs⟩, st⟩ := Len.pays x t A cd cs.length (fun j => cs.getD j 0) z (tabLen_of (movedLen hZ hw)) hfr hlo m meth c P g ig mk _ X hg hsize hdg hW hn ⟨r1, r2, rfl, hx, sta_is al S, hz⟩
  exact ⟨v, B, X', ⟨[], ⟨hv, rfl, hh⟩, hl, hk, hs⟩, st⟩
end StrChars.Road
namespace StrChars
open Jvm Sem ClassFile Op Lib Jvm.Stand Jvm.Free.XT Jvm.Free.ALB Jvm.Free.JM Jvm.Free
open Jvm.Lib.Cold (StaticIs)
/-- what place i of a byte[]'s cell holds -/
def yv (A : Cell) (i : Nat) : Int32 := match A.slots[i]? with | some (.int x) => x | _ => 0
theorem yv_get {a : Addr} {A : Cell} {U : State} (h : XT.Arr .byte a A U) (ht : Typed .byte A) {i : Nat} (hi : i < A.slots.size) : A.slots[i]? = some (.int (yv A i)) := by
  have e := Array.getElem?_eq_getElem hi
  have f := ht i _ e
  unfold yv; rw [e]
  generalize A.slots[i] = v at f
  cases v <;> simp [fits] at f ⊢
/-- the two arrays are equal, place for place -/
def EqC (A B : Cell) : Prop := A.slots.size = B.slots.size ∧ ∀ i, i < A.slots.size → yv A i = yv B i
/-- a boolean that says whether p -/
def Says01 (q : Prop) (r : Option Value) (s u : State) : Prop := ∃ v : Int32, r = some (.int v) ∧ u.heap = s.heap ∧ ((v = 1 ∧ q) ∨ (v = 0 ∧ ¬ q))
theorem Says01.mv {q : Prop} : ∀ r (U U' V V' : State), U'.heap = U.heap → V.vm.Alike V'.vm → V'.heap = V.heap → Says01 q r U V → Says01 q r U' V' :=
  fun r U U' V V' h1 _ h2 ⟨v, a, b, c⟩ => ⟨v, a, by rw [h1, h2]; exact b, c⟩
namespace LEq
def yN : MethodName := ⟨"java/lang/StringLatin1", "equals", "([B[B)Z"⟩
abbrev yB : ByteArray := jdk_43_method_13_code
theorem d0 : decode yB 0 = .ok (.aload_n 0, 1) := by decide +kernel
theorem d1 : decode yB 1 = .ok (.arraylength, 1) := by decide +kernel
theorem d2 : decode yB 2 = .ok (.aload_n 1, 1) := by decide +kernel
theorem d3 : decode yB 3 = .ok (.arraylength, 1) := by decide +kernel
theorem d4 : decode yB 4 = .ok (.if_icmp (.ne) 30, 3) := by decide +kernel
theorem d7 : decode yB 7 = .ok (.iconst 0, 1) := by decide +kernel
theorem d8 : decode yB 8 = .ok (.istore_n 2, 1) := by decide +kernel
theorem d9 : decode yB 9 = .ok (.iload_n 2, 1) := by decide +kernel
theorem d10 : decode yB 10 = .ok (.aload_n 0, 1) := by decide +kernel
theorem d11 : decode yB 11 = .ok (.arraylength, 1) := by decide +kernel
theorem d12 : decode yB 12 = .ok (.if_icmp (.ge) 20, 3) := by decide +kernel
theorem d15 : decode yB 15 = .ok (.aload_n 0, 1) := by decide +kernel
theorem d16 : decode yB 16 = .ok (.iload_n 2, 1) := by decide +kernel
theorem d17 : decode yB 17 = .ok (.baload, 1) := by decide +kernel
theorem d18 : decode yB 18 = .ok (.aload_n 1, 1) := by decide +kernel
theorem d19 : decode yB 19 = .ok (.iload_n 2, 1) := by decide +kernel
theorem d20 : decode yB 20 = .ok (.baload, 1) := by decide +kernel
theorem d21 : decode yB 21 = .ok (.if_icmp (.eq) 5, 3) := by decide +kernel
theorem d24 : decode yB 24 = .ok (.iconst 0, 1) := by decide +kernel
theorem d25 : decode yB 25 = .ok (.ireturn, 1) := by decide +kernel
theorem d26 : decode yB 26 = .ok (.iinc 2 1, 3) := by decide +kernel
theorem d29 : decode yB 29 = .ok (.goto (-20), 3) := by decide +kernel
theorem d32 : decode yB 32 = .ok (.iconst 1, 1) := by decide +kernel
theorem d33 : decode yB 33 = .ok (.ireturn, 1) := by decide +kernel
theorem d34 : decode yB 34 = .ok (.iconst 0, 1) := by decide +kernel
theorem d35 : decode yB 35 = .ok (.ireturn, 1) := by decide +kernel
def site : List Cond := []
def tab : Cond := tabOf yN yB 3 (some .boolean) site
def P (a : Addr) (A : Cell) (b : Addr) (B : Cell) (args : Array Value) (s : State) : Prop := args = #[.ref a, .ref b] ∧ XT.Arr .byte a A s ∧ Typed .byte A ∧ XT.Arr .byte b B s ∧ Typed .byte B
/-- whether two byte[] are equal, place for place -/
theorem law (l : Launch) (a : Addr) (A : Cell) (b : Addr) (B : Cell) : Law l yN 2 2 0 0 yB 3 (some .boolean) site (P a A b B) (Says01 (EqC A B)) [] 0 0 := by
  refine Law.of_walk (plainFor_of_name (by decide +kernel)) (by decide +kernel) (by decide +kernel) (by decide) (fun _ _ h => by rw [h.1]; rfl) (fun _ U U' hal hh h => ⟨h.1, h.2.1.mv hal hh, h.2.2.1, h.2.2.2.1.mv hal hh, h.2.2.2.2⟩) (fun r U U' V V' h1 hal h2 h => Says01.mv r U U' V V' h1 hal h2 h) ?_
  intro p e s m args below meth c s₁ X0 hexec hbytes hml hret hlk hnm hown hh0 W hP
  obtain ⟨rfl, hA, tA, hB, tB⟩ := hP
  have a31 := hA.2.2.2
  have b31 := hB.2.2.2
  have hA0 := hA.mv X0.warmed.alike hh0
  have hB0 := hB.mv X0.warmed.alike hh0
  have c1 : Steps p.tables e below (s₁.setTop (entryFrame m #[.ref a, .ref b] 3)) (s₁.setTop (mkF m 0 #[.val (.ref a), .val (.ref b), .unset] [])) := entry rfl
  have c2 : Steps p.tables e below (s₁.setTop (entryFrame m #[.ref a, .ref b] 3)) (s₁.setTop (mkF m 4 #[.val (.ref a), .val (.ref b), .unset] [.int (Int32.ofNat B.slots.size), .int (Int32.ofNat A.slots.size)])) := c1.trans (by
    refine XS.aloadN X0.here hexec rfl (hb hbytes d0) rfl rfl ?_
    refine X0.alen hexec hA0 rfl rfl (hb hbytes d1) ?_
    refine XS.aloadN X0.here hexec rfl (hb hbytes d2) rfl rfl ?_
    refine X0.alen hexec hB0 rfl rfl (hb hbytes d3) ?_
    exact Steps.refl _)
  by_cases hs : A.slots.size = B.slots.size
  · have c3 : Steps p.tables e below (s₁.setTop (entryFrame m #[.ref a, .ref b] 3)) (s₁.setTop (mkF m 9 #[.val (.ref a), .val (.ref b), .val (.int 0)] [])) := c2.trans (by
      refine XS.icmpNo X0.here hexec rfl (hb hbytes d4) rfl (ii_ne_f (by rw [hs])) ?_
      refine iconstV X0.here hexec rfl 0 (hb hbytes d7) (by decide) ?_
      refine XS.istoreN X0.here hexec rfl (hb hbytes d8) rfl rfl ?_
      exact Steps.refl _)
    have loop : ∀ (r i : Nat), i + r = A.slots.size → (∀ j, j < i → yv A j = yv B j) → Steps p.tables e below (s₁.setTop (entryFrame m #[.ref a, .ref b] 3)) (s₁.setTop (mkF m 9 #[.val (.ref a), .val (.ref b), .val (.int (Int32.ofNat i))] [])) → ∃ (pc : Nat) (Ls : Array Slot) (v : Int32), (pc = 25 ∨ pc = 33) ∧ ((v = 1 ∧ EqC A B) ∨ (v = 0 ∧ ¬ EqC A B)) ∧ Steps p.tables e below (s₁.setTop (entryFrame m #[.ref a, .ref b] 3)) (s₁.setTop (mkF m pc Ls [.int v])) := by
      intro r
      induction r with
      | zero =>
        intro i hi he cl
        exact ⟨33, _, 1, Or.inr rfl, Or.inl ⟨rfl, hs, fun j hj => he j (by omega)⟩, cl.trans (by
          refine XS.iloadN X0.here hexec rfl (hb hbytes d9) rfl ?_
          refine XS.aloadN X0.here hexec rfl (hb hbytes d10) rfl rfl ?_
          refine X0.alen hexec hA0 rfl rfl (hb hbytes d11) ?_
          refine XS.icmpYes X0.here hexec rfl (pc0 := 12) rfl (hb hbytes d12) rfl (ii_ge_t (nlt32 (by omega) (by omega))) (by decide) rfl ?_
          refine iconstV X0.here hexec rfl 1 (hb hbytes d32) (by decide) ?_
          exact Steps.refl _)⟩
      | succ r ih =>
        intro i hi he cl
        have c4 : Steps p.tables e below (s₁.setTop (entryFrame m #[.ref a, .ref b] 3)) (s₁.setTop (mkF m 21 #[.val (.ref a), .val (.ref b), .val (.int (Int32.ofNat i))] [.int (yv B i), .int (yv A i)])) := cl.trans (by
          refine XS.iloadN X0.here hexec rfl (hb hbytes d9) rfl ?_
          refine XS.aloadN X0.here hexec rfl (hb hbytes d10) rfl rfl ?_
          refine X0.alen hexec hA0 rfl rfl (hb hbytes d11) ?_
          refine XS.icmpNo X0.here hexec rfl (hb hbytes d12) rfl (ii_ge_f (lt32 (by omega) (by omega))) ?_
          refine XS.aloadN X0.here hexec rfl (hb hbytes d15) rfl rfl ?_
          refine XS.iloadN X0.here hexec rfl (hb hbytes d16) rfl ?_
          refine X0.aget hexec hA0 rfl (yv_get hA tA (i := i) (by omega)) rfl rfl (hb hbytes d17) ?_
          refine XS.aloadN X0.here hexec rfl (hb hbytes d18) rfl rfl ?_
          refine XS.iloadN X0.here hexec rfl (hb hbytes d19) rfl ?_
          refine X0.aget hexec hB0 rfl (yv_get hB tB (i := i) (by omega)) rfl rfl (hb hbytes d20) ?_
          exact Steps.refl _)
        by_cases hv : yv A i = yv B i
        · have c5 : Steps p.tables e below (s₁.setTop (entryFrame m #[.ref a, .ref b] 3)) (s₁.setTop (mkF m 9 #[.val (.ref a), .val (.ref b), .val (.int (Int32.ofNat i + 1))] [])) := c4.trans (by
            refine XS.icmpYes X0.here hexec rfl (pc0 := 21) rfl (hb hbytes d21) rfl (ii_eq_t hv) (by decide) rfl ?_
            refine iincV X0.here hexec rfl 1 (hb hbytes d26) (by decide) rfl rfl ?_
            refine XS.goto X0.here hexec rfl (pc0 := 29) rfl (hb hbytes d29) (by decide) rfl ?_
            exact Steps.refl _)
          rw [succ32] at c5
          exact ih (i + 1) (by omega) (fun j hj => by
            by_cases e : j = i
            · rw [e]; exact hv
            · exact he j (by omega)) c5
        · exact ⟨25, _, 0, Or.inl rfl, Or.inr ⟨rfl, fun q => hv (q.2 i (by omega))⟩, c4.trans (by
            refine XS.icmpNo X0.here hexec rfl (hb hbytes d21) rfl (ii_eq_f hv) ?_
            refine iconstV X0.here hexec rfl 0 (hb hbytes d24) (by decide) ?_
            exact Steps.refl _)⟩
    obtain ⟨pc, Ls, v, hpc, hv, cz⟩ := loop A.slots.size 0 (by omega) (fun j hj => absurd hj (Nat.not_lt_zero j)) c3
    have nv : narrow .boolean (.int v) = .int v := by rcases hv with ⟨rfl, -⟩ | ⟨rfl, -⟩ <;> rfl
    rcases hpc with rfl | rfl
    · exact ⟨s₁, some (.int v), _, _, _, X0, rfl, rfl, rfl, (fun h => by cases h), ⟨v, rfl, hh0, hv⟩, fun fs hl => cz.trans (X0.ireturnOut hexec hret nv (Or.inr (Or.inl rfl)) (hb hbytes d25) hl)⟩
    · exact ⟨s₁, some (.int v), _, _, _, X0, rfl, rfl, rfl, (fun h => by cases h), ⟨v, rfl, hh0, hv⟩, fun fs hl => cz.trans (X0.ireturnOut hexec hret nv (Or.inr (Or.inl rfl)) (hb hbytes d33) hl)⟩
  · have c3 : Steps p.tables e below (s₁.setTop (entryFrame m #[.ref a, .ref b] 3)) (s₁.setTop (mkF m 35 #[.val (.ref a), .val (.ref b), .unset] [.int 0])) := c2.trans (by
      refine XS.icmpYes X0.here hexec rfl (pc0 := 4) rfl (hb hbytes d4) rfl (ii_ne_t (ne32 a31 b31 hs)) (by decide) rfl ?_
      refine iconstV X0.here hexec rfl 0 (hb hbytes d34) (by decide) ?_
      exact Steps.refl _)
    exact ⟨s₁, some (.int 0), _, _, _, X0, rfl, rfl, rfl, (fun h => by cases h), ⟨0, rfl, hh0, Or.inr ⟨rfl, fun q => hs q.1⟩⟩, fun fs hl => c3.trans (X0.ireturnOut hexec hret rfl (Or.inr (Or.inl rfl)) (hb hbytes d35) hl)⟩
end LEq
theorem Cod.ty {cd : Int32} {n : Nat} {f : Nat → Int32} {V : Cell} (h : Cod cd n f V) : Typed .byte V := fun i v hv => by
  have hi : i < V.slots.size := (Array.getElem?_eq_some_iff.mp hv).1
  rcases h with ⟨-, k1, k2⟩ | ⟨-, k1, k2, -⟩
  · rw [(k2 i (by omega)).1] at hv; cases hv; exact fits_lo8 _
  · rcases Nat.mod_two_eq_zero_or_one i with e | e
    · obtain ⟨j, rfl⟩ : ∃ j, i = 2 * j := ⟨i / 2, by omega⟩
      rw [(k2 j (by omega)).1] at hv; cases hv; exact fits_lo8 _
    · obtain ⟨j, rfl⟩ : ∃ j, i = 2 * j + 1 := ⟨i / 2, by omega⟩
      rw [(k2 j (by omega)).2] at hv; cases hv; exact fits_lo8 _
/-- the same text -/
def SameT (n : Nat) (f : Nat → Int32) (k : Nat) (g : Nat → Int32) : Prop := n = k ∧ ∀ j, j < n → f j = g j
theorem lo8_inj {x y : Int32} (h0 : ¬ x < 0) (h1 : ¬ 255 < x) (k0 : ¬ y < 0) (k1 : ¬ 255 < y) (h : lo8 x = lo8 y) : x = y := by
  rw [← lo8_mask h0 h1, ← lo8_mask k0 k1, h]
/-- arrays coded by one coder are equal just where the texts are -/
theorem Cod.eqv {cd : Int32} {n k : Nat} {f g : Nat → Int32} {V V' : Cell} (h : Cod cd n f V) (h' : Cod cd k g V') (hf : ∀ j, j < n → ¬ f j < 0 ∧ ¬ 65535 < f j) (hg : ∀ j, j < k → ¬ g j < 0 ∧ ¬ 65535 < g j) : EqC V V' ↔ SameT n f k g := by
  have yvv : ∀ {W : Cell} {i : Nat} {x : Int32}, W.slots[i]? = some (.int x) → yv W i = x := fun q => by unfold yv; rw [q]
  rcases h with ⟨rfl, k1, k2⟩ | ⟨rfl, k1, k2, -⟩
  · rcases h' with ⟨-, m1, m2⟩ | ⟨e, -⟩
    · constructor
      · rintro ⟨e1, e2⟩
        refine ⟨by omega, fun j hj => ?_⟩
        have q := e2 j (by omega)
        rw [yvv (k2 j hj).1, yvv (m2 j (by omega)).1] at q
        exact lo8_inj (hf j hj).1 (k2 j hj).2 (hg j (by omega)).1 (m2 j (by omega)).2 q
      · rintro ⟨rfl, e2⟩
        refine ⟨by omega, fun j hj => ?_⟩
        rw [yvv (k2 j (by omega)).1, yvv (m2 j (by omega)).1, e2 j (by omega)]
    · exact absurd e (by decide)
  · rcases h' with ⟨e, -⟩ | ⟨-, m1, m2, -⟩
    · exact absurd e (by decide)
    · constructor
      · rintro ⟨e1, e2⟩
        refine ⟨by omega, fun j hj => ?_⟩
        have q1 := e2 (2 * j) (by omega)
        have q2 := e2 (2 * j + 1) (by omega)
        rw [yvv (k2 j hj).1, yvv (m2 j (by omega)).1] at q1
        rw [yvv (k2 j hj).2, yvv (m2 j (by omega)).2] at q2
        rw [← pair_says (hf j hj).1 (hf j hj).2, ← pair_says (hg j (by omega)).1 (hg j (by omega)).2, q1, q2]
      · rintro ⟨rfl, e2⟩
        refine ⟨by omega, fun i hi => ?_⟩
        rcases Nat.mod_two_eq_zero_or_one i with e | e
        · obtain ⟨j, rfl⟩ : ∃ j, i = 2 * j := ⟨i / 2, by omega⟩
          rw [yvv (k2 j (by omega)).1, yvv (m2 j (by omega)).1, e2 j (by omega)]
        · obtain ⟨j, rfl⟩ : ∃ j, i = 2 * j + 1 := ⟨i / 2, by omega⟩
          rw [yvv (k2 j (by omega)).2, yvv (m2 j (by omega)).2, e2 j (by omega)]
/-- two codings differ: so do the texts -/
theorem Cod.dif {cd cd' : Int32} {n k : Nat} {f g : Nat → Int32} {V V' : Cell} (h : Cod cd n f V) (h' : Cod cd' k g V') (hne : ¬ cd = cd') : ¬ SameT n f k g := by
  rintro ⟨rfl, e⟩
  rcases h with ⟨rfl, -, k2⟩ | ⟨rfl, -, -, j, hj, hw⟩
  · rcases h' with ⟨rfl, -⟩ | ⟨-, -, -, j, hj, hw⟩
    · exact hne rfl
    · exact (k2 j hj).2 (by rw [e j hj]; exact hw)
  · rcases h' with ⟨-, -, m2⟩ | ⟨rfl, -⟩
    · exact (m2 j hj).2 (by rw [← e j hj]; exact hw)
    · exact hne rfl
/-- an object of exactly C is an instance of C -/
theorem cinst {p : Program} {l : Launch} {e : Env} {R : Room} {s : State} {m : MethodId} {args : Array Value} {below : List Frame} {meth : Method} {c : Code} {T : State} {locs : List Loc} {cells slots : Nat} (X : Stand p l e R s m args below meth c T locs cells slots) (hexec : p.tables.exec = Jvm.exec) {own C : String} {index : Nat} (hown : s.vm.findClass own = some m.cls) (hlink : (Cond.classLink own index C).before args s = true) {a : Addr} (hE : Exact C a T)
    {g : JFrame} (hg : g.method = m) {rest : List Value} (hstack : g.stack = .ref a :: rest) (hdg : decode c.code g.pc = .ok (.instanceof index, 3)) :
    ∃ T', Stand p l e R s m args below meth c T' locs cells slots ∧ T'.heap = T.heap ∧ ∀ target, Steps p.tables e below (T'.setTop { g with pc := g.pc + 3, stack := .int 1 :: rest }) target → Steps p.tables e below (T.setTop g) target := by
  obtain ⟨cB, h1, D, h2, h3, h4⟩ := hE
  have h1' : s.vm.findClass C = some cB := by rw [← X.warmed.alike.findClass]; exact h1
  obtain ⟨vm', X', st⟩ := X.instanceofYes hexec hown hlink h2 h4 h1' (by rw [h3]; exact Jvm.Free.SB.assignable_self _ _) hg hstack hdg
  exact ⟨_, X', rfl, st⟩
theorem cself {p : Program} {l : Launch} {e : Env} {R : Room} {s : State} {m : MethodId} {args : Array Value} {below : List Frame} {meth : Method} {c : Code} {T : State} {locs : List Loc} {cells slots : Nat} (X : Stand p l e R s m args below meth c T locs cells slots) (hexec : p.tables.exec = Jvm.exec) {own C : String} {index : Nat} (hown : s.vm.findClass own = some m.cls) (hlink : (Cond.classLink own index C).before args s = true) {a : Addr} (hE : Exact C a T)
    {g : JFrame} (hg : g.method = m) {rest : List Value} (hstack : g.stack = .ref a :: rest) (hdg : decode c.code g.pc = .ok (.checkcast index, 3)) :
    ∃ T', Stand p l e R s m args below meth c T' locs cells slots ∧ T'.heap = T.heap ∧ ∀ target, Steps p.tables e below (T'.setTop { g with pc := g.pc + 3, stack := .ref a :: rest }) target → Steps p.tables e below (T.setTop g) target := by
  obtain ⟨cB, h1, D, h2, h3, h4⟩ := hE
  have h1' : s.vm.findClass C = some cB := by rw [← X.warmed.alike.findClass]; exact h1
  obtain ⟨vm', X', st⟩ := X.checkcastYes hexec hown hlink h2 h4 h1' (by rw [h3]; exact Jvm.Free.SB.assignable_self _ _) hg hstack hdg
  exact ⟨_, X', rfl, fun t h => st t (by rw [← hstack] at h; exact h)⟩
namespace SEq
def yN : MethodName := ⟨"java/lang/String", "equals", "(Ljava/lang/Object;)Z"⟩
abbrev yB : ByteArray := jdk_42_method_66_code
theorem d0 : decode yB 0 = .ok (.aload_n 0, 1) := by decide +kernel
theorem d1 : decode yB 1 = .ok (.aload_n 1, 1) := by decide +kernel
theorem d2 : decode yB 2 = .ok (.if_acmp (.ne) 5, 3) := by decide +kernel
theorem d5 : decode yB 5 = .ok (.iconst 1, 1) := by decide +kernel
theorem d6 : decode yB 6 = .ok (.ireturn, 1) := by decide +kernel
theorem d7 : decode yB 7 = .ok (.aload_n 1, 1) := by decide +kernel
theorem d8 : decode yB 8 = .ok (.instanceof 10, 3) := by decide +kernel
theorem d11 : decode yB 11 = .ok (.ifCond (.eq) 43, 3) := by decide +kernel
theorem d14 : decode yB 14 = .ok (.aload_n 1, 1) := by decide +kernel
theorem d15 : decode yB 15 = .ok (.checkcast 10, 3) := by decide +kernel
theorem d18 : decode yB 18 = .ok (.astore_n 2, 1) := by decide +kernel
theorem d19 : decode yB 19 = .ok (.getstatic 38, 3) := by decide +kernel
theorem d22 : decode yB 22 = .ok (.ifCond (.eq) 14, 3) := by decide +kernel
theorem d25 : decode yB 25 = .ok (.aload_n 0, 1) := by decide +kernel
theorem d26 : decode yB 26 = .ok (.getfield 15, 3) := by decide +kernel
theorem d29 : decode yB 29 = .ok (.aload_n 2, 1) := by decide +kernel
theorem d30 : decode yB 30 = .ok (.getfield 15, 3) := by decide +kernel
theorem d33 : decode yB 33 = .ok (.if_icmp (.ne) 21, 3) := by decide +kernel
theorem d36 : decode yB 36 = .ok (.aload_n 0, 1) := by decide +kernel
theorem d37 : decode yB 37 = .ok (.getfield 9, 3) := by decide +kernel
theorem d40 : decode yB 40 = .ok (.aload_n 2, 1) := by decide +kernel
theorem d41 : decode yB 41 = .ok (.getfield 9, 3) := by decide +kernel
theorem d44 : decode yB 44 = .ok (.invokestatic 541, 3) := by decide +kernel
theorem d47 : decode yB 47 = .ok (.ifCond (.eq) 7, 3) := by decide +kernel
theorem d50 : decode yB 50 = .ok (.iconst 1, 1) := by decide +kernel
theorem d51 : decode yB 51 = .ok (.goto 4, 3) := by decide +kernel
theorem d54 : decode yB 54 = .ok (.iconst 0, 1) := by decide +kernel
theorem d55 : decode yB 55 = .ok (.ireturn, 1) := by decide +kernel
def site : List Cond := [.classLink "java/lang/String" 10 "java/lang/String", .fieldLink "java/lang/String" 38 "java/lang/String" "COMPACT_STRINGS" "Z", .fieldLink "java/lang/String" 15 "java/lang/String" "coder" "B", .fieldLink "java/lang/String" 9 "java/lang/String" "value" "[B", LEq.tab] ++ staticW "java/lang/String" 541 LEq.yN
def tab : Cond := tabOf yN yB 3 (some .boolean) site
def P (x t : Addr) (V : Cell) (cd : Int32) (n : Nat) (f : Nat → Int32) (y t' : Addr) (V' : Cell) (cd' : Int32) (k : Nat) (g : Nat → Int32) (z : Int32) (args : Array Value) (s : State) : Prop := args = #[.ref x, .ref y] ∧ Txt x t V cd n f s ∧ Txt y t' V' cd' k g s ∧ StaticIs s "java/lang/String" "COMPACT_STRINGS" "Z" (.int z) ∧ ¬ z = 0
/-- equals(Object) of two Strings: whether the texts are the same -/
theorem law (l : Launch) (x t : Addr) (V : Cell) (cd : Int32) (n : Nat) (f : Nat → Int32) (y t' : Addr) (V' : Cell) (cd' : Int32) (k : Nat) (g : Nat → Int32) (z : Int32) : Law l yN 2 1 1 14 yB 3 (some .boolean) site (P x t V cd n f y t' V' cd' k g z) (Says01 (SameT n f k g)) [] 0 0 := by
  refine Law.of_walk (plainFor_of_name (by decide +kernel)) (by decide +kernel) (by decide +kernel) (by decide) (fun _ _ h => by rw [h.1]; rfl) (fun _ U U' hal hh h => ⟨h.1, h.2.1.mv hal hh, h.2.2.1.mv hal hh, h.2.2.2.1.there hal hh, h.2.2.2.2⟩) (fun r U U' V V' h1 hal h2 h => Says01.mv r U U' V V' h1 hal h2 h) ?_
  intro p e s m args below meth c s₁ X0 hexec hbytes hml hret hlk hnm hown hh0 W hP
  obtain ⟨rfl, hx, hy, s1, hz⟩ := hP
  have c1 : Steps p.tables e below (s₁.setTop (entryFrame m #[.ref x, .ref y] 3)) (s₁.setTop (mkF m 2 #[.val (.ref x), .val (.ref y), .unset] [.ref y, .ref x])) := Steps.trans (entry rfl) (by
    show Steps p.tables e below (s₁.setTop (mkF m 0 #[.val (.ref x), .val (.ref y), .unset] [])) _
    refine XS.aloadN X0.here hexec rfl (hb hbytes d0) rfl rfl ?_
    refine XS.aloadN X0.here hexec rfl (hb hbytes d1) rfl rfl ?_
    exact Steps.refl _)
  by_cases hxy : x = y
  · have c2 : Steps p.tables e below (s₁.setTop (entryFrame m #[.ref x, .ref y] 3)) (s₁.setTop (mkF m 6 #[.val (.ref x), .val (.ref y), .unset] [.int 1])) := c1.trans (by
      refine acmpNo X0.here hexec rfl (hb hbytes d2) rfl rfl rfl (by simp [acmp, hxy]) ?_
      refine iconstV X0.here hexec rfl 1 (hb hbytes d5) (by decide) ?_
      exact Steps.refl _)
    subst hxy
    have ec : cd = cd' := by
      obtain ⟨D, fd, a1, a2, a3⟩ := hx.2.2.1
      obtain ⟨D', fd', b1, b2, b3⟩ := hy.2.2.1
      cases a1.symm.trans b1
      obtain ⟨q1, q2, q3, q4⟩ := a2.1
      obtain ⟨r1, r2, r3, r4⟩ := b2.1
      cases q4.symm.trans r4
      cases a3.symm.trans b3; rfl
    have et : t = t' := by
      obtain ⟨D, fd, a1, a2, a3⟩ := hx.2.1
      obtain ⟨D', fd', b1, b2, b3⟩ := hy.2.1
      cases a1.symm.trans b1
      obtain ⟨q1, q2, q3, q4⟩ := a2.1
      obtain ⟨r1, r2, r3, r4⟩ := b2.1
      cases q4.symm.trans r4
      cases a3.symm.trans b3; rfl
    subst ec et
    have ev : V = V' := by cases hx.2.2.2.1.1.symm.trans hy.2.2.2.1.1; rfl
    subst ev
    have hs : SameT n f k g := (Cod.eqv hx.2.2.2.2.1 hy.2.2.2.2.1 hx.2.2.2.2.2 hy.2.2.2.2.2).mp ⟨rfl, fun _ _ => rfl⟩
    exact ⟨s₁, some (.int 1), _, _, _, X0, rfl, rfl, rfl, (fun h => by cases h), ⟨1, rfl, hh0, Or.inl ⟨rfl, hs⟩⟩, fun fs hl => c2.trans (X0.ireturnOut hexec hret rfl (Or.inr (Or.inl rfl)) (hb hbytes d6) hl)⟩
  · have c2 : Steps p.tables e below (s₁.setTop (entryFrame m #[.ref x, .ref y] 3)) (s₁.setTop (mkF m 8 #[.val (.ref x), .val (.ref y), .unset] [.ref y])) := c1.trans (by
      refine acmpYes X0.here hexec rfl (pc0 := 2) rfl (hb hbytes d2) rfl rfl rfl (by simp [acmp, hxy]) (by decide) rfl ?_
      refine XS.aloadN X0.here hexec rfl (hb hbytes d7) rfl rfl ?_
      exact Steps.refl _)
    obtain ⟨T3, X3, q3, st3⟩ := cinst X0 hexec hown (wk W (.classLink "java/lang/String" 10 "java/lang/String")) (hy.mv X0.warmed.alike hh0).1 (g := (mkF m 8 #[.val (.ref x), .val (.ref y), .unset] [.ref y])) rfl (rest := []) rfl (hb hbytes d8)
    have hh3 := q3.trans hh0
    have c4 : Steps p.tables e below (s₁.setTop (entryFrame m #[.ref x, .ref y] 3)) (T3.setTop (mkF m 15 #[.val (.ref x), .val (.ref y), .unset] [.ref y])) := (c2.trans (st3 _ (Steps.refl _))).trans (by
      refine XS.ifNo X3.here hexec rfl (hb hbytes d11) rfl (i0_eq_f (by decide)) ?_
      refine XS.aloadN X3.here hexec rfl (hb hbytes d14) rfl rfl ?_
      exact Steps.refl _)
    obtain ⟨T5, X5, q5, st5⟩ := cself X3 hexec hown (wk W (.classLink "java/lang/String" 10 "java/lang/String")) (hy.mv X3.warmed.alike hh3).1 (g := (mkF m 15 #[.val (.ref x), .val (.ref y), .unset] [.ref y])) rfl (rest := []) rfl (hb hbytes d15)
    have hh5 := q5.trans hh3
    have c6 : Steps p.tables e below (s₁.setTop (entryFrame m #[.ref x, .ref y] 3)) (T5.setTop (mkF m 19 #[.val (.ref x), .val (.ref y), .val (.ref y)] [])) := (c4.trans (st5 _ (Steps.refl _))).trans (by
      refine XS.astoreN X5.here hexec rfl (hb hbytes d18) rfl rfl rfl ?_
      exact Steps.refl _)
    obtain ⟨T7, X7, q7, st7⟩ := X5.sget hexec hown (wk W (.fieldLink "java/lang/String" 38 "java/lang/String" "COMPACT_STRINGS" "Z")) s1 (fun _ _ h => by rw [hh5]; exact h) (g := (mkF m 19 #[.val (.ref x), .val (.ref y), .val (.ref y)] [])) rfl (hb hbytes d19)
    have hh7 := q7.trans hh5
    have c8 : Steps p.tables e below (s₁.setTop (entryFrame m #[.ref x, .ref y] 3)) (T7.setTop (mkF m 26 #[.val (.ref x), .val (.ref y), .val (.ref y)] [.ref x])) := (c6.trans (st7 _ (Steps.refl _))).trans (by
      refine XS.ifNo X7.here hexec rfl (hb hbytes d22) rfl (i0_eq_f hz) ?_
      refine XS.aloadN X7.here hexec rfl (hb hbytes d25) rfl rfl ?_
      exact Steps.refl _)
    obtain ⟨T9, X9, q9, st9⟩ := X7.hget hexec hown (wk W (.fieldLink "java/lang/String" 15 "java/lang/String" "coder" "B")) (hx.mv X7.warmed.alike hh7).2.2.1 (g := (mkF m 26 #[.val (.ref x), .val (.ref y), .val (.ref y)] [.ref x])) rfl (rest := []) rfl (hb hbytes d26)
    have hh9 := q9.trans hh7
    have c10 : Steps p.tables e below (s₁.setTop (entryFrame m #[.ref x, .ref y] 3)) (T9.setTop (mkF m 30 #[.val (.ref x), .val (.ref y), .val (.ref y)] [.ref y, .int cd])) := (c8.trans (st9 _ (Steps.refl _))).trans (by
      refine XS.aloadN X9.here hexec rfl (hb hbytes d29) rfl rfl ?_
      exact Steps.refl _)
    obtain ⟨T11, X11, q11, st11⟩ := X9.hget hexec hown (wk W (.fieldLink "java/lang/String" 15 "java/lang/String" "coder" "B")) (hy.mv X9.warmed.alike hh9).2.2.1 (g := (mkF m 30 #[.val (.ref x), .val (.ref y), .val (.ref y)] [.ref y, .int cd])) rfl (rest := [.int cd]) rfl (hb hbytes d30)
    have hh11 := q11.trans hh9
    have c12 : Steps p.tables e below (s₁.setTop (entryFrame m #[.ref x, .ref y] 3)) (T11.setTop (mkF m 33 #[.val (.ref x), .val (.ref y), .val (.ref y)] [.int cd', .int cd])) := c10.trans (st11 _ (Steps.refl _))
    by_cases hcd : cd = cd'
    · subst hcd
      have c13 : Steps p.tables e below (s₁.setTop (entryFrame m #[.ref x, .ref y] 3)) (T11.setTop (mkF m 37 #[.val (.ref x), .val (.ref y), .val (.ref y)] [.ref x])) := c12.trans (by
        refine XS.icmpNo X11.here hexec rfl (hb hbytes d33) rfl (ii_ne_f rfl) ?_
        refine XS.aloadN X11.here hexec rfl (hb hbytes d36) rfl rfl ?_
        exact Steps.refl _)
      obtain ⟨T14, X14, q14, st14⟩ := X11.hget hexec hown (wk W (.fieldLink "java/lang/String" 9 "java/lang/String" "value" "[B")) (hx.mv X11.warmed.alike hh11).2.1 (g := (mkF m 37 #[.val (.ref x), .val (.ref y), .val (.ref y)] [.ref x])) rfl (rest := []) rfl (hb hbytes d37)
      have hh14 := q14.trans hh11
      have c15 : Steps p.tables e below (s₁.setTop (entryFrame m #[.ref x, .ref y] 3)) (T14.setTop (mkF m 41 #[.val (.ref x), .val (.ref y), .val (.ref y)] [.ref y, .ref t])) := (c13.trans (st14 _ (Steps.refl _))).trans (by
        refine XS.aloadN X14.here hexec rfl (hb hbytes d40) rfl rfl ?_
        exact Steps.refl _)
      obtain ⟨T16, X16, q16, st16⟩ := X14.hget hexec hown (wk W (.fieldLink "java/lang/String" 9 "java/lang/String" "value" "[B")) (hy.mv X14.warmed.alike hh14).2.1 (g := (mkF m 41 #[.val (.ref x), .val (.ref y), .val (.ref y)] [.ref y, .ref t])) rfl (rest := [.ref t]) rfl (hb hbytes d41)
      have hh16 := q16.trans hh14
      have c17 : Steps p.tables e below (s₁.setTop (entryFrame m #[.ref x, .ref y] 3)) (T16.setTop (mkF m 44 #[.val (.ref x), .val (.ref y), .val (.ref y)] [.ref t', .ref t])) := c15.trans (st16 _ (Steps.refl _))
      obtain ⟨v18, T18, X18, E18, g18⟩ := X16.callS hexec (LEq.law l t V t' V') hown (wks W (staticW "java/lang/String" 541 LEq.yN)) (wk W LEq.tab) (W := 0) (Nat.le_of_ble_eq_true rfl) (Nat.le_of_ble_eq_true rfl) (Nat.le_refl _) (Nat.le_refl _) (g := (mkF m 44 #[.val (.ref x), .val (.ref y), .val (.ref y)] [.ref t', .ref t])) rfl (by rw [hml]; rfl) c17 (argsL := [.ref t, .ref t']) (rest := []) rfl rfl (by show 2 * 0 + 0 ≤ _; decide) (hb hbytes d44) (⟨rfl, hx.2.2.2.1.mv X16.warmed.alike hh16, hx.2.2.2.2.1.ty, hy.2.2.2.1.mv X16.warmed.alike hh16, hy.2.2.2.2.1.ty⟩)
      obtain ⟨v, rfl, q18, hv⟩ := E18
      have iff := Cod.eqv hx.2.2.2.2.1 hy.2.2.2.2.1 hx.2.2.2.2.2 hy.2.2.2.2.2
      rcases hv with ⟨rfl, he⟩ | ⟨rfl, he⟩
      · have c19 : Steps p.tables e below (s₁.setTop (entryFrame m #[.ref x, .ref y] 3)) (T18.setTop (mkF m 55 #[.val (.ref x), .val (.ref y), .val (.ref y)] [.int 1])) := Steps.trans g18 (by
          refine XS.ifNo X18.here hexec rfl (hb hbytes d47) rfl (i0_eq_f (by decide)) ?_
          refine iconstV X18.here hexec rfl 1 (hb hbytes d50) (by decide) ?_
          refine XS.goto X18.here hexec rfl (pc0 := 51) rfl (hb hbytes d51) (by decide) rfl ?_
          exact Steps.refl _)
        exact ⟨T18, some (.int 1), _, _, _, X18, rfl, rfl, rfl, (fun h => by cases h), ⟨1, rfl, q18.trans hh16, Or.inl ⟨rfl, iff.mp he⟩⟩, fun fs hl => c19.trans (X18.ireturnOut hexec hret rfl (Or.inr (Or.inl rfl)) (hb hbytes d55) hl)⟩
      · have c19 : Steps p.tables e below (s₁.setTop (entryFrame m #[.ref x, .ref y] 3)) (T18.setTop (mkF m 55 #[.val (.ref x), .val (.ref y), .val (.ref y)] [.int 0])) := Steps.trans g18 (by
          refine XS.ifYes X18.here hexec rfl (pc0 := 47) rfl (hb hbytes d47) rfl (i0_eq_t rfl) (by decide) rfl ?_
          refine iconstV X18.here hexec rfl 0 (hb hbytes d54) (by decide) ?_
          exact Steps.refl _)
        exact ⟨T18, some (.int 0), _, _, _, X18, rfl, rfl, rfl, (fun h => by cases h), ⟨0, rfl, q18.trans hh16, Or.inr ⟨rfl, fun q => he (iff.mpr q)⟩⟩, fun fs hl => c19.trans (X18.ireturnOut hexec hret rfl (Or.inr (Or.inl rfl)) (hb hbytes d55) hl)⟩
    · have c13 : Steps p.tables e below (s₁.setTop (entryFrame m #[.ref x, .ref y] 3)) (T11.setTop (mkF m 55 #[.val (.ref x), .val (.ref y), .val (.ref y)] [.int 0])) := c12.trans (by
        refine XS.icmpYes X11.here hexec rfl (pc0 := 33) rfl (hb hbytes d33) rfl (ii_ne_t hcd) (by decide) rfl ?_
        refine iconstV X11.here hexec rfl 0 (hb hbytes d54) (by decide) ?_
        exact Steps.refl _)
      exact ⟨T11, some (.int 0), _, _, _, X11, rfl, rfl, rfl, (fun h => by cases h), ⟨0, rfl, hh11, Or.inr ⟨rfl, Cod.dif hx.2.2.2.2.1 hy.2.2.2.2.1 hcd⟩⟩, fun fs hl => c13.trans (X11.ireturnOut hexec hret rfl (Or.inr (Or.inl rfl)) (hb hbytes d55) hl)⟩
theorem pays {l : Launch} {R : Room} {p : Program} {e : Env} {below : List Frame} {s : State} {sargs : Array Value} {len W : Nat} (x t : Addr) (V : Cell) (cd : Int32) (n : Nat) (f : Nat → Int32) (y t' : Addr) (V' : Cell) (cd' : Int32) (k : Nat) (g : Nat → Int32) (z : Int32) (htab : tab.before sargs s = true) (hfr : 2 ≤ R.frames) (hlo : W + 28 ≤ R.locals) :
    Back l R p e below s sargs yN len W (fun A₁ a₁ => A₁.cells + 0 ≤ R.cells ∧ A₁.slots + 0 ≤ R.slots ∧ P x t V cd n f y t' V' cd' k g z a₁ A₁.U) (fun A₁ _ v₁ B₁ => Says01 (SameT n f k g) v₁ A₁.U B₁.U ∧ B₁.locs = A₁.locs ++ [] ∧ B₁.cells = A₁.cells + 0 ∧ B₁.slots = A₁.slots + 0) :=
  (law l x t V cd n f y t' V' cd' k g z).pays htab hfr (by omega)
end SEq
end StrChars
namespace StrChars.Road
open Jvm Sem ClassFile Op Lib Jvm.Stand Jvm.Free Jvm.Free.XT
open Jvm.Lib.Cold (StaticIs)
/-- the words of String.equals(Object) -/
abbrev wordsEq : List Jvm.Cond := [.code SEq.yN SEq.yB 3 (some .boolean), .initialized ST, .classLink ST 10 ST, .fieldLink ST 38 ST "COMPACT_STRINGS" "Z", .fieldLink ST 15 ST "coder" "B", .fieldLink ST 9 ST "value" "[B", .methodLink ST 541 LEq.yN, .static LEq.yN, .code LEq.yN LEq.yB 3 (some .boolean), .initialized "java/lang/StringLatin1"]
theorem tabEq_of {a : Array Value} {s : State} (h : ∀ w ∈ wordsEq, w.before a s = true) : SEq.tab.before a s = true := by
  have hl : LEq.tab.before a s = true := unparts (wk h (.code LEq.yN LEq.yB 3 (some .boolean))) (wks h (.initialized LEq.yN.cls :: LEq.site))
  have q := consq hl h
  exact unparts (wk q (.code SEq.yN SEq.yB 3 (some .boolean))) (wks q (.initialized SEq.yN.cls :: SEq.site))
theorem movedEq {Z s : State} {a0 args : Array Value} (hZ : Z.Warmed39 s.vm) (hw : ∀ d ∈ wordsEq, d.before a0 Z = true) : ∀ d ∈ wordsEq, d.before args s = true := fun d hd => by
  have t : ∀ d ∈ wordsEq, (d.onTables && d.keepsFace) = true := by decide +kernel
  exact RoadKit.mv hZ (hw d hd) (t d hd)
/-- the road's facts of a String, as the laws ask it -/
theorem txt_of {Z U : State} {a0 : Array Value} {kI : Nat} (wi : (Jvm.Cond.instantiable ST kI).before a0 Z = true) (al : Z.vm.Alike U.vm) {x t : Addr} {kb : ClassId} {cs : List Int32} {cd N2 : Int32} {vs : List Value} (E : RoadKit.Exa Z U.heap x ST) (V : RoadKit.Fld Z U.heap x ST "value" "[B" (.ref t)) (C : RoadKit.Fld Z U.heap x ST "coder" "B" (.int cd)) (K : RoadKit.Arv Z U.heap t kb .byte N2 vs (.int 0)) (hc : CodA cs cd N2 vs) (hb : ∀ c ∈ cs, ¬ c < 0 ∧ ¬ (65535 : Int32) < c) (l2 : cs.length ≤ 4000) :
    ∃ A, Txt x t A cd cs.length (fun j => cs.getD j 0) U := by
  obtain ⟨A, K1, K2, K3, K4, K5, K6⟩ := K
  have hcod := hc.cod (by omega) K3 K5
  obtain ⟨D, fV, fC, hB, F1, F2, g1, g2, -, -⟩ := strObj wi al E V C
  exact ⟨A, ⟨_, hB.2.2.1, D, hB.1, rfl, by cases q : D.vm <;> first | rfl | exact absurd q (hB.2.1.2 _)⟩, Has.of hB F1 g1, Has.of hB F2 g2, ⟨K1.1, State.isArrayOf_alike al K1.2.1, K1.2.2, by rcases hcod with ⟨-, q, -⟩ | ⟨-, q, -⟩ <;> omega⟩, hcod, fun j hj => by
    have e : cs.getD j 0 = cs[j] := by simp [List.getD_eq_getElem?_getD, hj]
    show ¬ cs.getD j 0 < 0 ∧ ¬ 65535 < cs.getD j 0
    rw [e]; exact hb _ (List.getElem_mem _)⟩
theorem same_list (cs ds : List Int32) : SameT cs.length (fun j => cs.getD j 0) ds.length (fun j => ds.getD j 0) ↔ cs = ds := by
  constructor
  · rintro ⟨e, q⟩
    refine List.ext_getElem e fun j h1 h2 => ?_
    have := q j h1
    simpa [List.getD_eq_getElem?_getD, h1, h2] using this
  · rintro rfl
    exact ⟨rfl, fun _ _ => rfl⟩
/-- **equals(Object) OF TWO SUCH STRINGS**: 1 just where the chars are the same -/
theorem eqW {p : Program} {l : Launch} {e : Env} {R : Room} {s : State} {args : Array Value} {below : List Frame} {len W : Nat} {Z : State} {a0 : Array Value} {h : Heap} (hZ : Z.Warmed39 s.vm) (hw : ∀ d ∈ wordsEq, d.before a0 Z = true) {kI : Nat} (wi : (Jvm.Cond.instantiable ST kI).before a0 Z = true)
    {x t : Addr} {kb : ClassId} {cs : List Int32} {cd N2 : Int32} {vs : List Value} (E : RoadKit.Exa Z h x ST) (V : RoadKit.Fld Z h x ST "value" "[B" (.ref t)) (C : RoadKit.Fld Z h x ST "coder" "B" (.int cd)) (K : RoadKit.Arv Z h t kb .byte N2 vs (.int 0)) (hc : CodA cs cd N2 vs) (hb : ∀ c ∈ cs, ¬ c < 0 ∧ ¬ (65535 : Int32) < c) (l2 : cs.length ≤ 4000)
    {y t' : Addr} {kb' : ClassId} {ds : List Int32} {cd' N2' : Int32} {vs' : List Value} (E' : RoadKit.Exa Z h y ST) (V' : RoadKit.Fld Z h y ST "value" "[B" (.ref t')) (C' : RoadKit.Fld Z h y ST "coder" "B" (.int cd')) (K' : RoadKit.Arv Z h t' kb' .byte N2' vs' (.int 0)) (hc' : CodA ds cd' N2' vs') (hb' : ∀ c ∈ ds, ¬ c < 0 ∧ ¬ (65535 : Int32) < c) (l2' : ds.length ≤ 4000)
    {z : Int32} (S : RoadKit.Sta Z h ST "COMPACT_STRINGS" "Z" (.int z)) (hz : ¬ z = 0) (hfr : 2 ≤ R.frames) (hlo : W + 28 ≤ R.locals) :
    Back l R p e below s args (⟨"java/lang/String", "equals", "(Ljava/lang/Object;)Z"⟩ : MethodName) len W (fun P a => a = #[.ref x, .ref y] ∧ P.U.heap = h ∧ P.cells + 0 ≤ R.cells ∧ P.slots + 0 ≤ R.slots)
      (fun P _ v B => ∃ L, (((v = some (.int 1) ∧ cs = ds) ∨ (v = some (.int 0) ∧ ¬ cs = ds)) ∧ L = [] ∧ B.U.heap = h) ∧ B.locs = P.locs ++ L ∧ B.cells = P.cells + 0 ∧ B.slots = P.slots + 0) := by
  intro m meth c P g ig mk a X hg hsize hdg hW hn hp'
  obtain ⟨rfl, rfl, r1, r2⟩ := hp'
  have al : Z.vm.Alike P.U.vm := hZ.alike.trans X.warmed.alike
  obtain ⟨A, hx⟩ := txt_of wi al E V C K hc hb l2
  obtain ⟨A', hy⟩ := txt_of wi al E' V' C' K' hc' hb' l2'
  obtain ⟨v, B, X', ⟨⟨w, hv, hh, hq⟩, hl, hk, hs⟩, st⟩ := SEq.pays x t A cd cs.length (fun j => cs.getD j 0) y t' A' cd' ds.length (fun j => ds.getD j 0) z (tabEq_of (movedEq hZ hw)) hfr hlo m meth c P g ig mk _ X hg hsize hdg hW hn ⟨r1, r2, rfl, hx, hy, sta_is al S, hz⟩
  refine ⟨v, B, X', ⟨[], ⟨?_, rfl, hh⟩, hl, hk, hs⟩, st⟩
  rcases hq with ⟨rfl, q⟩ | ⟨rfl, q⟩
  · exact Or.inl ⟨hv, (same_list cs ds).mp q⟩
  · exact Or.inr ⟨hv, fun e => q ((same_list cs ds).mpr e)⟩
end StrChars.Road
namespace StrChars.Road
open Jvm Sem ClassFile Op Lib Jvm.Stand Jvm.Free Jvm.Free.XT
open Jvm.Lib.Cold (StaticIs)
/-- what backV says of its String, as the contracts of this text ask it: cs's low bytes, coder 0 -/
theorem codOf {cs : List Int32} {n : Nat} (hn : cs.length = n) (hb : ∀ c ∈ cs, ¬ 255 < c) : CodA cs 0 (Int32.ofNat n) ((cs.map lo8).map Value.int) := Or.inl ⟨rfl, by rw [hn], by simp [List.map_map, Function.comp_def], hb⟩
end StrChars.Road
end Jvm.Pilot.@@N@@
namespace Jvm.Pilot.@@N@@
open Jvm Jvm.ClassFile Sem Op Lib Jvm.Free Jvm.Stand Jvm.LawKit Jvm.RoadKit Jvm.OwnKit
/-- the object at a is a String of these chars -/
def SV (Z : State) (h : Heap) (a : Addr) (cs : List Int32) : Prop :=
  Exa Z h a "java/lang/String" ∧ ∃ (cd : Int32) (b : Addr) (kb : ClassId) (N2 : Int32) (vs : List Value), Fld Z h a "java/lang/String" "coder" "B" (.int cd) ∧ Fld Z h a "java/lang/String" "value" "[B" (.ref b) ∧ Arv Z h b kb .byte N2 vs (.int 0) ∧ StrChars.Road.CodA cs cd N2 vs ∧ (∀ c ∈ cs, ¬ c < 0 ∧ ¬ (65535 : Int32) < c) ∧ cs.length ≤ 4000
theorem SV.exa {Z : State} {h : Heap} {a : Addr} {cs : List Int32} (S : SV Z h a cs) : Exa Z h a "java/lang/String" := S.1
theorem SV.lt {Z : State} {h : Heap} {a : Addr} {cs : List Int32} (S : SV Z h a cs) : a < h.size := S.1.lt
theorem SV.ext {Z : State} {h h' : Heap} {a : Addr} {cs : List Int32} (S : SV Z h a cs) (E : Ext h h') : SV Z h' a cs := by
  obtain ⟨X, cd, b, kb, N2, vs, C, V, A, r⟩ := S
  exact ⟨X.ext E, cd, b, kb, N2, vs, C.ext E, V.ext E, A.ext E, r⟩
theorem SV.keepX {Z : State} {h h' : Heap} {a : Addr} {cs : List Int32} {ws : List Addr} (S : SV Z h a cs) (K : Keep h h' ws) (q : ∀ x ∈ ws, x ≠ a ∧ NB Z h x) : SV Z h' a cs := by
  obtain ⟨X, cd, b, kb, N2, vs, C, V, A, r⟩ := S
  have ha : a ∉ ws := fun z => (q a z).1 rfl
  have hb : b ∉ ws := fun z => by obtain ⟨c, A', -⟩ := A; exact (q b z).2 c A'
  exact ⟨X.keep K, cd, b, kb, N2, vs, C.keep K ha, V.keep K ha, A.keep K hb, r⟩
section Str
variable {p : Program} {l : Launch} {e : Env} {R : Room} {s : State} {args : Array Value} {below : List Frame} {len Wd : Nat} {Z : State} {a0 : Array Value} {h : Heap} {vm0 : Vm}
/-- new String(char[]) of one or more chars below 256 -/
theorem newS (hZ : Z.Warmed39 vm0) (hw : ∀ d ∈ StrChars.Road.words, d.before a0 Z = true) (wi : (Jvm.Cond.instantiable "java/lang/String" 4).before a0 Z = true) (O : Ext Z.heap h) {x b : Addr} {kC : ClassId} {cs : List Int32} {d v0 c0 : Value} {z N : Int32}
    (hx0 : Z.heap.size ≤ x) (E : Exa Z h x "java/lang/String") (V : Fld Z h x "java/lang/String" "value" "[B" v0) (C : Fld Z h x "java/lang/String" "coder" "B" c0) (K : Arv Z h b kC .char N (cs.map Value.int) d) (S : Sta Z Z.heap "java/lang/String" "COMPACT_STRINGS" "Z" (.int z)) (hz : ¬ z = 0)
    (n : Nat) (hn : cs.length = n) (hN : N = Int32.ofNat n) (l0 : 0 < n) (l2 : n ≤ 4000) (hp : ∀ c ∈ cs, C8 c) (hfr : 4 ≤ R.frames) (hlo : Wd + 65 ≤ R.locals) :
    Back l R p e below (s.setVm vm0) args (⟨"java/lang/String", "<init>", "([C)V"⟩ : MethodName) len Wd (PreB R #[.ref x, .ref b] h 1 n) (PostB Z h [x] (fun v h' => v = none ∧ SV Z h' x cs) 1 n) := by
  refine Back.mono (StrChars.Road.backV (s := s.setVm vm0) hZ hw wi (bs := cs.map (fun c => c.toInt8.toInt32)) hx0 O.1 E V C K (S.ext O) hz hn hN l0 l2 hp rfl hfr hlo) (fun _ _ q => q) (fun P a v B hp' hq => ?_)
  obtain ⟨L, ⟨q1, q2, q3, q4, q5, t, kb, -, -, -, q6, q7⟩, hl, hc, hs⟩ := hq
  exact ⟨L, ⟨q2, q3, q1, q4, 0, t, kb, N, _, q5, q6, q7, by rw [hN]; exact StrChars.Road.codOf hn (fun c hc => (hp c hc).2), fun c hc => (hp c hc).up, by omega⟩, hl, hc, hs⟩
end Str
end Jvm.Pilot.@@N@@
namespace Jvm.Pilot.@@N@@
open Jvm Jvm.ClassFile Sem Op Lib Jvm.Free Jvm.Stand Jvm.LawKit Jvm.RoadKit Jvm.OwnKit
theorem lenS {p : Program} {l : Launch} {e : Env} {R : Room} {s : State} {args : Array Value} {below : List Frame} {len Wd : Nat} {Z : State} {a0 : Array Value} {h : Heap} {vm0 : Vm} (hZ : Z.Warmed39 vm0) (hw : ∀ d ∈ StrChars.Road.wordsLen, d.before a0 Z = true) (wi : (Jvm.Cond.instantiable "java/lang/String" 4).before a0 Z = true) (O : Ext Z.heap h) {x : Addr} {cs : List Int32} {z : Int32}
    (S : SV Z h x cs) (hC : Sta Z Z.heap "java/lang/String" "COMPACT_STRINGS" "Z" (.int z)) (hz : ¬ z = 0) (hfr : 2 ≤ R.frames) (hlo : Wd + 25 ≤ R.locals) :
    Back l R p e below (s.setVm vm0) args (⟨"java/lang/String", "length", "()I"⟩ : MethodName) len Wd (PreB R #[.ref x] h 0 0) (PostB Z h [] (fun v h' => v = some (.int (Int32.ofNat cs.length)) ∧ h' = h) 0 0) := by
  obtain ⟨E, cd, b, kb, N2, vs, C, V, A, hc, hb, l2⟩ := S
  refine Back.mono (StrChars.Road.lenW (s := s.setVm vm0) hZ hw wi E V C A hc hb (hC.ext O) hz l2 hfr hlo) (fun _ _ q => q) (fun P a v B hp hq => ?_)
  obtain ⟨L, ⟨q1, q2, q3⟩, hl, hk, hs⟩ := hq
  exact ⟨L, ⟨by rw [q2]; exact Fr.nil _, by rw [q3]; exact Keep.refl _ _, q1, q3⟩, hl, hk, hs⟩
end Jvm.Pilot.@@N@@
namespace Jvm.Pilot.@@N@@
open Jvm Jvm.ClassFile Sem Op Lib Jvm.Free Jvm.Stand Jvm.LawKit Jvm.RoadKit Jvm.OwnKit
theorem eqS {p : Program} {l : Launch} {e : Env} {R : Room} {s : State} {args : Array Value} {below : List Frame} {len Wd : Nat} {Z : State} {a0 : Array Value} {h : Heap} {vm0 : Vm} (hZ : Z.Warmed39 vm0) (hw : ∀ d ∈ StrChars.Road.wordsEq, d.before a0 Z = true) (wi : (Jvm.Cond.instantiable "java/lang/String" 4).before a0 Z = true) (O : Ext Z.heap h) {x y : Addr} {cs ds : List Int32} {z : Int32}
    (S : SV Z h x cs) (S' : SV Z h y ds) (hC : Sta Z Z.heap "java/lang/String" "COMPACT_STRINGS" "Z" (.int z)) (hz : ¬ z = 0) (hfr : 2 ≤ R.frames) (hlo : Wd + 28 ≤ R.locals) :
    Back l R p e below (s.setVm vm0) args (⟨"java/lang/String", "equals", "(Ljava/lang/Object;)Z"⟩ : MethodName) len Wd (PreB R #[.ref x, .ref y] h 0 0) (PostB Z h [] (fun v h' => v = some (.int (if cs = ds then 1 else 0)) ∧ h' = h) 0 0) := by
  obtain ⟨E, cd, b, kb, N2, vs, C, V, A, hc, hb, l2⟩ := S
  obtain ⟨E', cd', b', kb', N2', vs', C', V', A', hc', hb', l2'⟩ := S'
  refine Back.mono (StrChars.Road.eqW (s := s.setVm vm0) hZ hw wi E V C A hc hb l2 E' V' C' A' hc' hb' l2' (hC.ext O) hz hfr hlo) (fun _ _ q => q) (fun P a v B hp hq => ?_)
  obtain ⟨L, ⟨q1, q2, q3⟩, hl, hk, hs⟩ := hq
  refine ⟨L, ⟨by rw [q2]; exact Fr.nil _, by rw [q3]; exact Keep.refl _ _, ?_, q3⟩, hl, hk, hs⟩
  rcases q1 with ⟨r1, r2⟩ | ⟨r1, r2⟩
  · rw [r1, if_pos r2]
  · rw [r1, if_neg r2]
end Jvm.Pilot.@@N@@
namespace Jvm.Pilot.@@N@@
open Jvm Jvm.ClassFile Sem Op Lib Jvm.Free Jvm.Stand Jvm.LawKit Jvm.RoadKit Jvm.OwnKit
/-- a String of chars below 256: its bytes -/
theorem SV.lat {Z : State} {h : Heap} {a : Addr} {cs : List Int32} (S : SV Z h a cs) (h8 : ∀ c ∈ cs, C8 c) : ∃ (b : Addr) (kb : ClassId), Fld Z h a "java/lang/String" "coder" "B" (.int 0) ∧ Fld Z h a "java/lang/String" "value" "[B" (.ref b) ∧ Arv Z h b kb .byte (Int32.ofNat cs.length) ((cs.map OwnKit.i2b).map Value.int) (.int 0) ∧ cs.length ≤ 4000 := by
  obtain ⟨X, cd, b, kb, N2, vs, C, V, A, r, c16, ln⟩ := S
  rcases r with ⟨rfl, rfl, rfl, -⟩ | ⟨-, -, -, c, hc, q⟩
  · refine ⟨b, kb, C, V, ?_, ln⟩
    rw [List.map_map]; exact A
  · exact absurd q (h8 c hc).2
theorem SV.ofLat {Z : State} {h : Heap} {a b : Addr} {kb : ClassId} {n : Int32} {cs : List Int32} (X : Exa Z h a "java/lang/String") (V : Fld Z h a "java/lang/String" "value" "[B" (.ref b)) (C : Fld Z h a "java/lang/String" "coder" "B" (.int 0)) (A : Arv Z h b kb .byte n ((cs.map OwnKit.i2b).map Value.int) (.int 0)) (hn : n = Int32.ofNat cs.length) (h8 : ∀ c ∈ cs, C8 c) (hl : cs.length ≤ 4000) : SV Z h a cs := by
  rw [List.map_map] at A
  exact ⟨X, 0, b, kb, n, _, C, V, A, Or.inl ⟨rfl, hn, rfl, fun c hc => (h8 c hc).2⟩, fun c hc => (h8 c hc).up, hl⟩
end Jvm.Pilot.@@N@@
namespace Jvm.Pilot.@@N@@
open Jvm Jvm.ClassFile Sem Op Lib Jvm.Free Jvm.Stand Jvm.LawKit Jvm.RoadKit Jvm.OwnKit Bundle Jvm.Pilot.@@N@@.Jvm.D
theorem wd {a0 : Array Value} {Z : State} (hw : ∀ d ∈ tables_1, d.before a0 Z = true) (k : Nat) {d : Jvm.Cond} (h : tables_1[k]? = some d) : d.before a0 Z = true := hw _ (List.mem_of_getElem? h)
theorem wsNew {a0 : Array Value} {Z : State} (hw : ∀ d ∈ tables_1, d.before a0 Z = true) : ∀ d ∈ StrChars.Road.words, d.before a0 Z = true := fun d hd => hw d ((by decide +kernel : ∀ d ∈ StrChars.Road.words, d ∈ tables_1) d hd)
theorem wsLen {a0 : Array Value} {Z : State} (hw : ∀ d ∈ tables_1, d.before a0 Z = true) : ∀ d ∈ StrChars.Road.wordsLen, d.before a0 Z = true := fun d hd => hw d ((by decide +kernel : ∀ d ∈ StrChars.Road.wordsLen, d ∈ tables_1) d hd)
theorem wsEq {a0 : Array Value} {Z : State} (hw : ∀ d ∈ tables_1, d.before a0 Z = true) : ∀ d ∈ StrChars.Road.wordsEq, d.before a0 Z = true := fun d hd => hw d ((by decide +kernel : ∀ d ∈ StrChars.Road.wordsEq, d ∈ tables_1) d hd)
theorem pn0 : plainName "com/example/federation/federation/NamesDomainOfPinLaw" = true := by first | (simp [plainName, overriddenIn]; done) | decide +kernel
theorem pn1 : plainName "java/lang/String" = true := by first | (simp [plainName, overriddenIn]; done) | decide +kernel
theorem pn2 : plainName "java/lang/StringLatin1" = true := by first | (simp [plainName, overriddenIn]; done) | decide +kernel
theorem pn3 : plainName "jdk/internal/util/Preconditions" = true := by first | (simp [plainName, overriddenIn]; done) | decide +kernel
theorem pn4 : plainName "java/util/Arrays" = true := by first | (simp [plainName, overriddenIn]; done) | decide +kernel
theorem pn5 : plainName "com/example/federation/federation/Names" = true := by first | (simp [plainName, overriddenIn]; done) | decide +kernel
theorem d1_0 : decode method_2_code 0 = .ok (.iload_n 0, 1) := by decide +kernel
theorem d1_1 : decode method_2_code 1 = .ok (.ldc 7, 2) := by decide +kernel
theorem d1_3 : decode method_2_code 3 = .ok (.iand, 1) := by decide +kernel
theorem d1_4 : decode method_2_code 4 = .ok (.bipush 53, 2) := by decide +kernel
theorem d1_6 : decode method_2_code 6 = .ok (.irem, 1) := by decide +kernel
theorem d1_7 : decode method_2_code 7 = .ok (.istore_n 1, 1) := by decide +kernel
theorem d1_8 : decode method_2_code 8 = .ok (.iload_n 1, 1) := by decide +kernel
theorem d1_9 : decode method_2_code 9 = .ok (.bipush 26, 2) := by decide +kernel
theorem d1_11 : decode method_2_code 11 = .ok (.if_icmp .ge 9, 3) := by decide +kernel
theorem d1_14 : decode method_2_code 14 = .ok (.bipush 97, 2) := by decide +kernel
theorem d1_16 : decode method_2_code 16 = .ok (.iload_n 1, 1) := by decide +kernel
theorem d1_17 : decode method_2_code 17 = .ok (.iadd, 1) := by decide +kernel
theorem d1_18 : decode method_2_code 18 = .ok (.i2c, 1) := by decide +kernel
theorem d1_19 : decode method_2_code 19 = .ok (.ireturn, 1) := by decide +kernel
theorem d1_20 : decode method_2_code 20 = .ok (.iload_n 1, 1) := by decide +kernel
theorem d1_21 : decode method_2_code 21 = .ok (.bipush 52, 2) := by decide +kernel
theorem d1_23 : decode method_2_code 23 = .ok (.if_icmp .ge 12, 3) := by decide +kernel
theorem d1_26 : decode method_2_code 26 = .ok (.bipush 65, 2) := by decide +kernel
theorem d1_28 : decode method_2_code 28 = .ok (.iload_n 1, 1) := by decide +kernel
theorem d1_29 : decode method_2_code 29 = .ok (.bipush 26, 2) := by decide +kernel
theorem d1_31 : decode method_2_code 31 = .ok (.isub, 1) := by decide +kernel
theorem d1_32 : decode method_2_code 32 = .ok (.iadd, 1) := by decide +kernel
theorem d1_33 : decode method_2_code 33 = .ok (.i2c, 1) := by decide +kernel
theorem d1_34 : decode method_2_code 34 = .ok (.ireturn, 1) := by decide +kernel
theorem d1_35 : decode method_2_code 35 = .ok (.sipush 233, 3) := by decide +kernel
theorem d1_38 : decode method_2_code 38 = .ok (.ireturn, 1) := by decide +kernel
theorem d2_0 : decode method_3_code 0 = .ok (.iload_n 0, 1) := by decide +kernel
theorem d2_1 : decode method_3_code 1 = .ok (.ldc 7, 2) := by decide +kernel
theorem d2_3 : decode method_3_code 3 = .ok (.iand, 1) := by decide +kernel
theorem d2_4 : decode method_3_code 4 = .ok (.bipush 66, 2) := by decide +kernel
theorem d2_6 : decode method_3_code 6 = .ok (.irem, 1) := by decide +kernel
theorem d2_7 : decode method_3_code 7 = .ok (.istore_n 1, 1) := by decide +kernel
theorem d2_8 : decode method_3_code 8 = .ok (.iload_n 1, 1) := by decide +kernel
theorem d2_9 : decode method_3_code 9 = .ok (.bipush 52, 2) := by decide +kernel
theorem d2_11 : decode method_3_code 11 = .ok (.if_icmp .ge 8, 3) := by decide +kernel
theorem d2_14 : decode method_3_code 14 = .ok (.iload_n 1, 1) := by decide +kernel
theorem d2_15 : decode method_3_code 15 = .ok (.invokestatic 8, 3) := by decide +kernel
theorem d2_18 : decode method_3_code 18 = .ok (.ireturn, 1) := by decide +kernel
theorem d2_19 : decode method_3_code 19 = .ok (.iload_n 1, 1) := by decide +kernel
theorem d2_20 : decode method_3_code 20 = .ok (.bipush 62, 2) := by decide +kernel
theorem d2_22 : decode method_3_code 22 = .ok (.if_icmp .ge 12, 3) := by decide +kernel
theorem d2_25 : decode method_3_code 25 = .ok (.bipush 48, 2) := by decide +kernel
theorem d2_27 : decode method_3_code 27 = .ok (.iload_n 1, 1) := by decide +kernel
theorem d2_28 : decode method_3_code 28 = .ok (.bipush 52, 2) := by decide +kernel
theorem d2_30 : decode method_3_code 30 = .ok (.isub, 1) := by decide +kernel
theorem d2_31 : decode method_3_code 31 = .ok (.iadd, 1) := by decide +kernel
theorem d2_32 : decode method_3_code 32 = .ok (.i2c, 1) := by decide +kernel
theorem d2_33 : decode method_3_code 33 = .ok (.ireturn, 1) := by decide +kernel
theorem d2_34 : decode method_3_code 34 = .ok (.iload_n 1, 1) := by decide +kernel
theorem d2_35 : decode method_3_code 35 = .ok (.bipush 62, 2) := by decide +kernel
theorem d2_37 : decode method_3_code 37 = .ok (.if_icmp .ne 6, 3) := by decide +kernel
theorem d2_40 : decode method_3_code 40 = .ok (.bipush 95, 2) := by decide +kernel
theorem d2_42 : decode method_3_code 42 = .ok (.ireturn, 1) := by decide +kernel
theorem d2_43 : decode method_3_code 43 = .ok (.iload_n 1, 1) := by decide +kernel
theorem d2_44 : decode method_3_code 44 = .ok (.bipush 63, 2) := by decide +kernel
theorem d2_46 : decode method_3_code 46 = .ok (.if_icmp .ne 6, 3) := by decide +kernel
theorem d2_49 : decode method_3_code 49 = .ok (.bipush 45, 2) := by decide +kernel
theorem d2_51 : decode method_3_code 51 = .ok (.ireturn, 1) := by decide +kernel
theorem d2_52 : decode method_3_code 52 = .ok (.iload_n 1, 1) := by decide +kernel
theorem d2_53 : decode method_3_code 53 = .ok (.bipush 64, 2) := by decide +kernel
theorem d2_55 : decode method_3_code 55 = .ok (.if_icmp .ne 6, 3) := by decide +kernel
theorem d2_58 : decode method_3_code 58 = .ok (.bipush 46, 2) := by decide +kernel
theorem d2_60 : decode method_3_code 60 = .ok (.ireturn, 1) := by decide +kernel
theorem d2_61 : decode method_3_code 61 = .ok (.sipush 233, 3) := by decide +kernel
theorem d2_64 : decode method_3_code 64 = .ok (.ireturn, 1) := by decide +kernel
theorem d3_0 : decode method_4_code 0 = .ok (.iload_n 1, 1) := by decide +kernel
theorem d3_1 : decode method_4_code 1 = .ok (.iconst 1, 1) := by decide +kernel
theorem d3_2 : decode method_4_code 2 = .ok (.if_icmp .ne 20, 3) := by decide +kernel
theorem d3_5 : decode method_4_code 5 = .ok (.new 14, 3) := by decide +kernel
theorem d3_8 : decode method_4_code 8 = .ok (.dup, 1) := by decide +kernel
theorem d3_9 : decode method_4_code 9 = .ok (.iconst 1, 1) := by decide +kernel
theorem d3_10 : decode method_4_code 10 = .ok (.newarray .char, 2) := by decide +kernel
theorem d3_12 : decode method_4_code 12 = .ok (.dup, 1) := by decide +kernel
theorem d3_13 : decode method_4_code 13 = .ok (.iconst 0, 1) := by decide +kernel
theorem d3_14 : decode method_4_code 14 = .ok (.aload_n 0, 1) := by decide +kernel
theorem d3_15 : decode method_4_code 15 = .ok (.iconst 0, 1) := by decide +kernel
theorem d3_16 : decode method_4_code 16 = .ok (.caload, 1) := by decide +kernel
theorem d3_17 : decode method_4_code 17 = .ok (.castore, 1) := by decide +kernel
theorem d3_18 : decode method_4_code 18 = .ok (.invokespecial 16, 3) := by decide +kernel
theorem d3_21 : decode method_4_code 21 = .ok (.areturn, 1) := by decide +kernel
theorem d3_22 : decode method_4_code 22 = .ok (.iload_n 1, 1) := by decide +kernel
theorem d3_23 : decode method_4_code 23 = .ok (.iconst 2, 1) := by decide +kernel
theorem d3_24 : decode method_4_code 24 = .ok (.if_icmp .ne 26, 3) := by decide +kernel
theorem d3_27 : decode method_4_code 27 = .ok (.new 14, 3) := by decide +kernel
theorem d3_30 : decode method_4_code 30 = .ok (.dup, 1) := by decide +kernel
theorem d3_31 : decode method_4_code 31 = .ok (.iconst 2, 1) := by decide +kernel
theorem d3_32 : decode method_4_code 32 = .ok (.newarray .char, 2) := by decide +kernel
theorem d3_34 : decode method_4_code 34 = .ok (.dup, 1) := by decide +kernel
theorem d3_35 : decode method_4_code 35 = .ok (.iconst 0, 1) := by decide +kernel
theorem d3_36 : decode method_4_code 36 = .ok (.aload_n 0, 1) := by decide +kernel
theorem d3_37 : decode method_4_code 37 = .ok (.iconst 0, 1) := by decide +kernel
theorem d3_38 : decode method_4_code 38 = .ok (.caload, 1) := by decide +kernel
theorem d3_39 : decode method_4_code 39 = .ok (.castore, 1) := by decide +kernel
theorem d3_40 : decode method_4_code 40 = .ok (.dup, 1) := by decide +kernel
theorem d3_41 : decode method_4_code 41 = .ok (.iconst 1, 1) := by decide +kernel
theorem d3_42 : decode method_4_code 42 = .ok (.aload_n 0, 1) := by decide +kernel
theorem d3_43 : decode method_4_code 43 = .ok (.iconst 1, 1) := by decide +kernel
theorem d3_44 : decode method_4_code 44 = .ok (.caload, 1) := by decide +kernel
theorem d3_45 : decode method_4_code 45 = .ok (.castore, 1) := by decide +kernel
theorem d3_46 : decode method_4_code 46 = .ok (.invokespecial 16, 3) := by decide +kernel
theorem d3_49 : decode method_4_code 49 = .ok (.areturn, 1) := by decide +kernel
theorem d3_50 : decode method_4_code 50 = .ok (.iload_n 1, 1) := by decide +kernel
theorem d3_51 : decode method_4_code 51 = .ok (.iconst 3, 1) := by decide +kernel
theorem d3_52 : decode method_4_code 52 = .ok (.if_icmp .ne 32, 3) := by decide +kernel
theorem d3_55 : decode method_4_code 55 = .ok (.new 14, 3) := by decide +kernel
theorem d3_58 : decode method_4_code 58 = .ok (.dup, 1) := by decide +kernel
theorem d3_59 : decode method_4_code 59 = .ok (.iconst 3, 1) := by decide +kernel
theorem d3_60 : decode method_4_code 60 = .ok (.newarray .char, 2) := by decide +kernel
theorem d3_62 : decode method_4_code 62 = .ok (.dup, 1) := by decide +kernel
theorem d3_63 : decode method_4_code 63 = .ok (.iconst 0, 1) := by decide +kernel
theorem d3_64 : decode method_4_code 64 = .ok (.aload_n 0, 1) := by decide +kernel
theorem d3_65 : decode method_4_code 65 = .ok (.iconst 0, 1) := by decide +kernel
theorem d3_66 : decode method_4_code 66 = .ok (.caload, 1) := by decide +kernel
theorem d3_67 : decode method_4_code 67 = .ok (.castore, 1) := by decide +kernel
theorem d3_68 : decode method_4_code 68 = .ok (.dup, 1) := by decide +kernel
theorem d3_69 : decode method_4_code 69 = .ok (.iconst 1, 1) := by decide +kernel
theorem d3_70 : decode method_4_code 70 = .ok (.aload_n 0, 1) := by decide +kernel
theorem d3_71 : decode method_4_code 71 = .ok (.iconst 1, 1) := by decide +kernel
theorem d3_72 : decode method_4_code 72 = .ok (.caload, 1) := by decide +kernel
theorem d3_73 : decode method_4_code 73 = .ok (.castore, 1) := by decide +kernel
theorem d3_74 : decode method_4_code 74 = .ok (.dup, 1) := by decide +kernel
theorem d3_75 : decode method_4_code 75 = .ok (.iconst 2, 1) := by decide +kernel
theorem d3_76 : decode method_4_code 76 = .ok (.aload_n 0, 1) := by decide +kernel
theorem d3_77 : decode method_4_code 77 = .ok (.iconst 2, 1) := by decide +kernel
theorem d3_78 : decode method_4_code 78 = .ok (.caload, 1) := by decide +kernel
theorem d3_79 : decode method_4_code 79 = .ok (.castore, 1) := by decide +kernel
theorem d3_80 : decode method_4_code 80 = .ok (.invokespecial 16, 3) := by decide +kernel
theorem d3_83 : decode method_4_code 83 = .ok (.areturn, 1) := by decide +kernel
theorem d3_84 : decode method_4_code 84 = .ok (.iload_n 1, 1) := by decide +kernel
theorem d3_85 : decode method_4_code 85 = .ok (.iconst 4, 1) := by decide +kernel
theorem d3_86 : decode method_4_code 86 = .ok (.if_icmp .ne 38, 3) := by decide +kernel
theorem d3_89 : decode method_4_code 89 = .ok (.new 14, 3) := by decide +kernel
theorem d3_92 : decode method_4_code 92 = .ok (.dup, 1) := by decide +kernel
theorem d3_93 : decode method_4_code 93 = .ok (.iconst 4, 1) := by decide +kernel
theorem d3_94 : decode method_4_code 94 = .ok (.newarray .char, 2) := by decide +kernel
theorem d3_96 : decode method_4_code 96 = .ok (.dup, 1) := by decide +kernel
theorem d3_97 : decode method_4_code 97 = .ok (.iconst 0, 1) := by decide +kernel
theorem d3_98 : decode method_4_code 98 = .ok (.aload_n 0, 1) := by decide +kernel
theorem d3_99 : decode method_4_code 99 = .ok (.iconst 0, 1) := by decide +kernel
theorem d3_100 : decode method_4_code 100 = .ok (.caload, 1) := by decide +kernel
theorem d3_101 : decode method_4_code 101 = .ok (.castore, 1) := by decide +kernel
theorem d3_102 : decode method_4_code 102 = .ok (.dup, 1) := by decide +kernel
theorem d3_103 : decode method_4_code 103 = .ok (.iconst 1, 1) := by decide +kernel
theorem d3_104 : decode method_4_code 104 = .ok (.aload_n 0, 1) := by decide +kernel
theorem d3_105 : decode method_4_code 105 = .ok (.iconst 1, 1) := by decide +kernel
theorem d3_106 : decode method_4_code 106 = .ok (.caload, 1) := by decide +kernel
theorem d3_107 : decode method_4_code 107 = .ok (.castore, 1) := by decide +kernel
theorem d3_108 : decode method_4_code 108 = .ok (.dup, 1) := by decide +kernel
theorem d3_109 : decode method_4_code 109 = .ok (.iconst 2, 1) := by decide +kernel
theorem d3_110 : decode method_4_code 110 = .ok (.aload_n 0, 1) := by decide +kernel
theorem d3_111 : decode method_4_code 111 = .ok (.iconst 2, 1) := by decide +kernel
theorem d3_112 : decode method_4_code 112 = .ok (.caload, 1) := by decide +kernel
theorem d3_113 : decode method_4_code 113 = .ok (.castore, 1) := by decide +kernel
theorem d3_114 : decode method_4_code 114 = .ok (.dup, 1) := by decide +kernel
theorem d3_115 : decode method_4_code 115 = .ok (.iconst 3, 1) := by decide +kernel
theorem d3_116 : decode method_4_code 116 = .ok (.aload_n 0, 1) := by decide +kernel
theorem d3_117 : decode method_4_code 117 = .ok (.iconst 3, 1) := by decide +kernel
theorem d3_118 : decode method_4_code 118 = .ok (.caload, 1) := by decide +kernel
theorem d3_119 : decode method_4_code 119 = .ok (.castore, 1) := by decide +kernel
theorem d3_120 : decode method_4_code 120 = .ok (.invokespecial 16, 3) := by decide +kernel
theorem d3_123 : decode method_4_code 123 = .ok (.areturn, 1) := by decide +kernel
theorem d3_124 : decode method_4_code 124 = .ok (.iload_n 1, 1) := by decide +kernel
theorem d3_125 : decode method_4_code 125 = .ok (.iconst 5, 1) := by decide +kernel
theorem d3_126 : decode method_4_code 126 = .ok (.if_icmp .ne 44, 3) := by decide +kernel
theorem d3_129 : decode method_4_code 129 = .ok (.new 14, 3) := by decide +kernel
theorem d3_132 : decode method_4_code 132 = .ok (.dup, 1) := by decide +kernel
theorem d3_133 : decode method_4_code 133 = .ok (.iconst 5, 1) := by decide +kernel
theorem d3_134 : decode method_4_code 134 = .ok (.newarray .char, 2) := by decide +kernel
theorem d3_136 : decode method_4_code 136 = .ok (.dup, 1) := by decide +kernel
theorem d3_137 : decode method_4_code 137 = .ok (.iconst 0, 1) := by decide +kernel
theorem d3_138 : decode method_4_code 138 = .ok (.aload_n 0, 1) := by decide +kernel
theorem d3_139 : decode method_4_code 139 = .ok (.iconst 0, 1) := by decide +kernel
theorem d3_140 : decode method_4_code 140 = .ok (.caload, 1) := by decide +kernel
theorem d3_141 : decode method_4_code 141 = .ok (.castore, 1) := by decide +kernel
theorem d3_142 : decode method_4_code 142 = .ok (.dup, 1) := by decide +kernel
theorem d3_143 : decode method_4_code 143 = .ok (.iconst 1, 1) := by decide +kernel
theorem d3_144 : decode method_4_code 144 = .ok (.aload_n 0, 1) := by decide +kernel
theorem d3_145 : decode method_4_code 145 = .ok (.iconst 1, 1) := by decide +kernel
theorem d3_146 : decode method_4_code 146 = .ok (.caload, 1) := by decide +kernel
theorem d3_147 : decode method_4_code 147 = .ok (.castore, 1) := by decide +kernel
theorem d3_148 : decode method_4_code 148 = .ok (.dup, 1) := by decide +kernel
theorem d3_149 : decode method_4_code 149 = .ok (.iconst 2, 1) := by decide +kernel
theorem d3_150 : decode method_4_code 150 = .ok (.aload_n 0, 1) := by decide +kernel
theorem d3_151 : decode method_4_code 151 = .ok (.iconst 2, 1) := by decide +kernel
theorem d3_152 : decode method_4_code 152 = .ok (.caload, 1) := by decide +kernel
theorem d3_153 : decode method_4_code 153 = .ok (.castore, 1) := by decide +kernel
theorem d3_154 : decode method_4_code 154 = .ok (.dup, 1) := by decide +kernel
theorem d3_155 : decode method_4_code 155 = .ok (.iconst 3, 1) := by decide +kernel
theorem d3_156 : decode method_4_code 156 = .ok (.aload_n 0, 1) := by decide +kernel
theorem d3_157 : decode method_4_code 157 = .ok (.iconst 3, 1) := by decide +kernel
theorem d3_158 : decode method_4_code 158 = .ok (.caload, 1) := by decide +kernel
theorem d3_159 : decode method_4_code 159 = .ok (.castore, 1) := by decide +kernel
theorem d3_160 : decode method_4_code 160 = .ok (.dup, 1) := by decide +kernel
theorem d3_161 : decode method_4_code 161 = .ok (.iconst 4, 1) := by decide +kernel
theorem d3_162 : decode method_4_code 162 = .ok (.aload_n 0, 1) := by decide +kernel
theorem d3_163 : decode method_4_code 163 = .ok (.iconst 4, 1) := by decide +kernel
theorem d3_164 : decode method_4_code 164 = .ok (.caload, 1) := by decide +kernel
theorem d3_165 : decode method_4_code 165 = .ok (.castore, 1) := by decide +kernel
theorem d3_166 : decode method_4_code 166 = .ok (.invokespecial 16, 3) := by decide +kernel
theorem d3_169 : decode method_4_code 169 = .ok (.areturn, 1) := by decide +kernel
theorem d3_170 : decode method_4_code 170 = .ok (.iload_n 1, 1) := by decide +kernel
theorem d3_171 : decode method_4_code 171 = .ok (.bipush 6, 2) := by decide +kernel
theorem d3_173 : decode method_4_code 173 = .ok (.if_icmp .ne 51, 3) := by decide +kernel
theorem d3_176 : decode method_4_code 176 = .ok (.new 14, 3) := by decide +kernel
theorem d3_179 : decode method_4_code 179 = .ok (.dup, 1) := by decide +kernel
theorem d3_180 : decode method_4_code 180 = .ok (.bipush 6, 2) := by decide +kernel
theorem d3_182 : decode method_4_code 182 = .ok (.newarray .char, 2) := by decide +kernel
theorem d3_184 : decode method_4_code 184 = .ok (.dup, 1) := by decide +kernel
theorem d3_185 : decode method_4_code 185 = .ok (.iconst 0, 1) := by decide +kernel
theorem d3_186 : decode method_4_code 186 = .ok (.aload_n 0, 1) := by decide +kernel
theorem d3_187 : decode method_4_code 187 = .ok (.iconst 0, 1) := by decide +kernel
theorem d3_188 : decode method_4_code 188 = .ok (.caload, 1) := by decide +kernel
theorem d3_189 : decode method_4_code 189 = .ok (.castore, 1) := by decide +kernel
theorem d3_190 : decode method_4_code 190 = .ok (.dup, 1) := by decide +kernel
theorem d3_191 : decode method_4_code 191 = .ok (.iconst 1, 1) := by decide +kernel
theorem d3_192 : decode method_4_code 192 = .ok (.aload_n 0, 1) := by decide +kernel
theorem d3_193 : decode method_4_code 193 = .ok (.iconst 1, 1) := by decide +kernel
theorem d3_194 : decode method_4_code 194 = .ok (.caload, 1) := by decide +kernel
theorem d3_195 : decode method_4_code 195 = .ok (.castore, 1) := by decide +kernel
theorem d3_196 : decode method_4_code 196 = .ok (.dup, 1) := by decide +kernel
theorem d3_197 : decode method_4_code 197 = .ok (.iconst 2, 1) := by decide +kernel
theorem d3_198 : decode method_4_code 198 = .ok (.aload_n 0, 1) := by decide +kernel
theorem d3_199 : decode method_4_code 199 = .ok (.iconst 2, 1) := by decide +kernel
theorem d3_200 : decode method_4_code 200 = .ok (.caload, 1) := by decide +kernel
theorem d3_201 : decode method_4_code 201 = .ok (.castore, 1) := by decide +kernel
theorem d3_202 : decode method_4_code 202 = .ok (.dup, 1) := by decide +kernel
theorem d3_203 : decode method_4_code 203 = .ok (.iconst 3, 1) := by decide +kernel
theorem d3_204 : decode method_4_code 204 = .ok (.aload_n 0, 1) := by decide +kernel
theorem d3_205 : decode method_4_code 205 = .ok (.iconst 3, 1) := by decide +kernel
theorem d3_206 : decode method_4_code 206 = .ok (.caload, 1) := by decide +kernel
theorem d3_207 : decode method_4_code 207 = .ok (.castore, 1) := by decide +kernel
theorem d3_208 : decode method_4_code 208 = .ok (.dup, 1) := by decide +kernel
theorem d3_209 : decode method_4_code 209 = .ok (.iconst 4, 1) := by decide +kernel
theorem d3_210 : decode method_4_code 210 = .ok (.aload_n 0, 1) := by decide +kernel
theorem d3_211 : decode method_4_code 211 = .ok (.iconst 4, 1) := by decide +kernel
theorem d3_212 : decode method_4_code 212 = .ok (.caload, 1) := by decide +kernel
theorem d3_213 : decode method_4_code 213 = .ok (.castore, 1) := by decide +kernel
theorem d3_214 : decode method_4_code 214 = .ok (.dup, 1) := by decide +kernel
theorem d3_215 : decode method_4_code 215 = .ok (.iconst 5, 1) := by decide +kernel
theorem d3_216 : decode method_4_code 216 = .ok (.aload_n 0, 1) := by decide +kernel
theorem d3_217 : decode method_4_code 217 = .ok (.iconst 5, 1) := by decide +kernel
theorem d3_218 : decode method_4_code 218 = .ok (.caload, 1) := by decide +kernel
theorem d3_219 : decode method_4_code 219 = .ok (.castore, 1) := by decide +kernel
theorem d3_220 : decode method_4_code 220 = .ok (.invokespecial 16, 3) := by decide +kernel
theorem d3_223 : decode method_4_code 223 = .ok (.areturn, 1) := by decide +kernel
theorem d3_224 : decode method_4_code 224 = .ok (.new 14, 3) := by decide +kernel
theorem d3_227 : decode method_4_code 227 = .ok (.dup, 1) := by decide +kernel
theorem d3_228 : decode method_4_code 228 = .ok (.bipush 7, 2) := by decide +kernel
theorem d3_230 : decode method_4_code 230 = .ok (.newarray .char, 2) := by decide +kernel
theorem d3_232 : decode method_4_code 232 = .ok (.dup, 1) := by decide +kernel
theorem d3_233 : decode method_4_code 233 = .ok (.iconst 0, 1) := by decide +kernel
theorem d3_234 : decode method_4_code 234 = .ok (.aload_n 0, 1) := by decide +kernel
theorem d3_235 : decode method_4_code 235 = .ok (.iconst 0, 1) := by decide +kernel
theorem d3_236 : decode method_4_code 236 = .ok (.caload, 1) := by decide +kernel
theorem d3_237 : decode method_4_code 237 = .ok (.castore, 1) := by decide +kernel
theorem d3_238 : decode method_4_code 238 = .ok (.dup, 1) := by decide +kernel
theorem d3_239 : decode method_4_code 239 = .ok (.iconst 1, 1) := by decide +kernel
theorem d3_240 : decode method_4_code 240 = .ok (.aload_n 0, 1) := by decide +kernel
theorem d3_241 : decode method_4_code 241 = .ok (.iconst 1, 1) := by decide +kernel
theorem d3_242 : decode method_4_code 242 = .ok (.caload, 1) := by decide +kernel
theorem d3_243 : decode method_4_code 243 = .ok (.castore, 1) := by decide +kernel
theorem d3_244 : decode method_4_code 244 = .ok (.dup, 1) := by decide +kernel
theorem d3_245 : decode method_4_code 245 = .ok (.iconst 2, 1) := by decide +kernel
theorem d3_246 : decode method_4_code 246 = .ok (.aload_n 0, 1) := by decide +kernel
theorem d3_247 : decode method_4_code 247 = .ok (.iconst 2, 1) := by decide +kernel
theorem d3_248 : decode method_4_code 248 = .ok (.caload, 1) := by decide +kernel
theorem d3_249 : decode method_4_code 249 = .ok (.castore, 1) := by decide +kernel
theorem d3_250 : decode method_4_code 250 = .ok (.dup, 1) := by decide +kernel
theorem d3_251 : decode method_4_code 251 = .ok (.iconst 3, 1) := by decide +kernel
theorem d3_252 : decode method_4_code 252 = .ok (.aload_n 0, 1) := by decide +kernel
theorem d3_253 : decode method_4_code 253 = .ok (.iconst 3, 1) := by decide +kernel
theorem d3_254 : decode method_4_code 254 = .ok (.caload, 1) := by decide +kernel
theorem d3_255 : decode method_4_code 255 = .ok (.castore, 1) := by decide +kernel
theorem d3_256 : decode method_4_code 256 = .ok (.dup, 1) := by decide +kernel
theorem d3_257 : decode method_4_code 257 = .ok (.iconst 4, 1) := by decide +kernel
theorem d3_258 : decode method_4_code 258 = .ok (.aload_n 0, 1) := by decide +kernel
theorem d3_259 : decode method_4_code 259 = .ok (.iconst 4, 1) := by decide +kernel
theorem d3_260 : decode method_4_code 260 = .ok (.caload, 1) := by decide +kernel
theorem d3_261 : decode method_4_code 261 = .ok (.castore, 1) := by decide +kernel
theorem d3_262 : decode method_4_code 262 = .ok (.dup, 1) := by decide +kernel
theorem d3_263 : decode method_4_code 263 = .ok (.iconst 5, 1) := by decide +kernel
theorem d3_264 : decode method_4_code 264 = .ok (.aload_n 0, 1) := by decide +kernel
theorem d3_265 : decode method_4_code 265 = .ok (.iconst 5, 1) := by decide +kernel
theorem d3_266 : decode method_4_code 266 = .ok (.caload, 1) := by decide +kernel
theorem d3_267 : decode method_4_code 267 = .ok (.castore, 1) := by decide +kernel
theorem d3_268 : decode method_4_code 268 = .ok (.dup, 1) := by decide +kernel
theorem d3_269 : decode method_4_code 269 = .ok (.bipush 6, 2) := by decide +kernel
theorem d3_271 : decode method_4_code 271 = .ok (.aload_n 0, 1) := by decide +kernel
theorem d3_272 : decode method_4_code 272 = .ok (.bipush 6, 2) := by decide +kernel
theorem d3_274 : decode method_4_code 274 = .ok (.caload, 1) := by decide +kernel
theorem d3_275 : decode method_4_code 275 = .ok (.castore, 1) := by decide +kernel
theorem d3_276 : decode method_4_code 276 = .ok (.invokespecial 16, 3) := by decide +kernel
theorem d3_279 : decode method_4_code 279 = .ok (.areturn, 1) := by decide +kernel
theorem d10_0 : decode prog_26_method_5_code 0 = .ok (.aload_n 0, 1) := by decide +kernel
theorem d10_1 : decode prog_26_method_5_code 1 = .ok (.iconst 0, 1) := by decide +kernel
theorem d10_2 : decode prog_26_method_5_code 2 = .ok (.aload_n 0, 1) := by decide +kernel
theorem d10_3 : decode prog_26_method_5_code 3 = .ok (.bipush 58, 2) := by decide +kernel
theorem d10_5 : decode prog_26_method_5_code 5 = .ok (.invokevirtual 23, 3) := by decide +kernel
theorem d10_8 : decode prog_26_method_5_code 8 = .ok (.invokevirtual 27, 3) := by decide +kernel
theorem d10_11 : decode prog_26_method_5_code 11 = .ok (.areturn, 1) := by decide +kernel
theorem d11_0 : decode jdk_42_method_79_code 0 = .ok (.aload_n 0, 1) := by decide +kernel
theorem d11_1 : decode jdk_42_method_79_code 1 = .ok (.iload_n 1, 1) := by decide +kernel
theorem d11_2 : decode jdk_42_method_79_code 2 = .ok (.iconst 0, 1) := by decide +kernel
theorem d11_3 : decode jdk_42_method_79_code 3 = .ok (.invokevirtual 633, 3) := by decide +kernel
theorem d11_6 : decode jdk_42_method_79_code 6 = .ok (.ireturn, 1) := by decide +kernel
theorem d12_0 : decode jdk_42_method_80_code 0 = .ok (.aload_n 0, 1) := by decide +kernel
theorem d12_1 : decode jdk_42_method_80_code 1 = .ok (.invokevirtual 492, 3) := by decide +kernel
theorem d12_4 : decode jdk_42_method_80_code 4 = .ok (.ifCond .eq 19, 3) := by decide +kernel
theorem d12_7 : decode jdk_42_method_80_code 7 = .ok (.aload_n 0, 1) := by decide +kernel
theorem d12_8 : decode jdk_42_method_80_code 8 = .ok (.getfield 9, 3) := by decide +kernel
theorem d12_11 : decode jdk_42_method_80_code 11 = .ok (.iload_n 1, 1) := by decide +kernel
theorem d12_12 : decode jdk_42_method_80_code 12 = .ok (.iload_n 2, 1) := by decide +kernel
theorem d12_13 : decode jdk_42_method_80_code 13 = .ok (.aload_n 0, 1) := by decide +kernel
theorem d12_14 : decode jdk_42_method_80_code 14 = .ok (.invokevirtual 505, 3) := by decide +kernel
theorem d12_17 : decode jdk_42_method_80_code 17 = .ok (.invokestatic 637, 3) := by decide +kernel
theorem d12_20 : decode jdk_42_method_80_code 20 = .ok (.goto 16, 3) := by decide +kernel
theorem d12_36 : decode jdk_42_method_80_code 36 = .ok (.ireturn, 1) := by decide +kernel
theorem d13_0 : decode jdk_42_method_154_code 0 = .ok (.getstatic 38, 3) := by decide +kernel
theorem d13_3 : decode jdk_42_method_154_code 3 = .ok (.ifCond .eq 14, 3) := by decide +kernel
theorem d13_6 : decode jdk_42_method_154_code 6 = .ok (.aload_n 0, 1) := by decide +kernel
theorem d13_7 : decode jdk_42_method_154_code 7 = .ok (.getfield 15, 3) := by decide +kernel
theorem d13_10 : decode jdk_42_method_154_code 10 = .ok (.ifCond .ne 7, 3) := by decide +kernel
theorem d13_13 : decode jdk_42_method_154_code 13 = .ok (.iconst 1, 1) := by decide +kernel
theorem d13_14 : decode jdk_42_method_154_code 14 = .ok (.goto 4, 3) := by decide +kernel
theorem d13_18 : decode jdk_42_method_154_code 18 = .ok (.ireturn, 1) := by decide +kernel
theorem d16_0 : decode jdk_43_method_22_code 0 = .ok (.iload_n 1, 1) := by decide +kernel
theorem d16_1 : decode jdk_43_method_22_code 1 = .ok (.invokestatic 88, 3) := by decide +kernel
theorem d16_4 : decode jdk_43_method_22_code 4 = .ok (.ifCond .ne 5, 3) := by decide +kernel
theorem d16_9 : decode jdk_43_method_22_code 9 = .ok (.iload_n 2, 1) := by decide +kernel
theorem d16_10 : decode jdk_43_method_22_code 10 = .ok (.iconst 0, 1) := by decide +kernel
theorem d16_11 : decode jdk_43_method_22_code 11 = .ok (.invokestatic 92, 3) := by decide +kernel
theorem d16_14 : decode jdk_43_method_22_code 14 = .ok (.istore_n 2, 1) := by decide +kernel
theorem d16_15 : decode jdk_43_method_22_code 15 = .ok (.iload_n 3, 1) := by decide +kernel
theorem d16_16 : decode jdk_43_method_22_code 16 = .ok (.aload_n 0, 1) := by decide +kernel
theorem d16_17 : decode jdk_43_method_22_code 17 = .ok (.arraylength, 1) := by decide +kernel
theorem d16_18 : decode jdk_43_method_22_code 18 = .ok (.invokestatic 38, 3) := by decide +kernel
theorem d16_21 : decode jdk_43_method_22_code 21 = .ok (.istore_n 3, 1) := by decide +kernel
theorem d16_22 : decode jdk_43_method_22_code 22 = .ok (.iload_n 2, 1) := by decide +kernel
theorem d16_23 : decode jdk_43_method_22_code 23 = .ok (.iload_n 3, 1) := by decide +kernel
theorem d16_24 : decode jdk_43_method_22_code 24 = .ok (.if_icmp .lt 5, 3) := by decide +kernel
theorem d16_27 : decode jdk_43_method_22_code 27 = .ok (.iconst (-1), 1) := by decide +kernel
theorem d16_28 : decode jdk_43_method_22_code 28 = .ok (.ireturn, 1) := by decide +kernel
theorem d16_29 : decode jdk_43_method_22_code 29 = .ok (.aload_n 0, 1) := by decide +kernel
theorem d16_30 : decode jdk_43_method_22_code 30 = .ok (.iload_n 1, 1) := by decide +kernel
theorem d16_31 : decode jdk_43_method_22_code 31 = .ok (.iload_n 2, 1) := by decide +kernel
theorem d16_32 : decode jdk_43_method_22_code 32 = .ok (.iload_n 3, 1) := by decide +kernel
theorem d16_33 : decode jdk_43_method_22_code 33 = .ok (.invokestatic 95, 3) := by decide +kernel
theorem d16_36 : decode jdk_43_method_22_code 36 = .ok (.ireturn, 1) := by decide +kernel
theorem d17_0 : decode jdk_43_method_4_code 0 = .ok (.iload_n 0, 1) := by decide +kernel
theorem d17_1 : decode jdk_43_method_4_code 1 = .ok (.ifCond .lt 14, 3) := by decide +kernel
theorem d17_4 : decode jdk_43_method_4_code 4 = .ok (.iload_n 0, 1) := by decide +kernel
theorem d17_5 : decode jdk_43_method_4_code 5 = .ok (.sipush 255, 3) := by decide +kernel
theorem d17_8 : decode jdk_43_method_4_code 8 = .ok (.if_icmp .gt 7, 3) := by decide +kernel
theorem d17_11 : decode jdk_43_method_4_code 11 = .ok (.iconst 1, 1) := by decide +kernel
theorem d17_12 : decode jdk_43_method_4_code 12 = .ok (.goto 4, 3) := by decide +kernel
theorem d17_16 : decode jdk_43_method_4_code 16 = .ok (.ireturn, 1) := by decide +kernel
theorem d18_0 : decode jdk_29_method_65_code 0 = .ok (.iload_n 0, 1) := by decide +kernel
theorem d18_1 : decode jdk_29_method_65_code 1 = .ok (.iload_n 1, 1) := by decide +kernel
theorem d18_2 : decode jdk_29_method_65_code 2 = .ok (.if_icmp .lt 7, 3) := by decide +kernel
theorem d18_5 : decode jdk_29_method_65_code 5 = .ok (.iload_n 0, 1) := by decide +kernel
theorem d18_6 : decode jdk_29_method_65_code 6 = .ok (.goto 4, 3) := by decide +kernel
theorem d18_9 : decode jdk_29_method_65_code 9 = .ok (.iload_n 1, 1) := by decide +kernel
theorem d18_10 : decode jdk_29_method_65_code 10 = .ok (.ireturn, 1) := by decide +kernel
theorem d19_0 : decode jdk_29_method_69_code 0 = .ok (.iload_n 0, 1) := by decide +kernel
theorem d19_1 : decode jdk_29_method_69_code 1 = .ok (.iload_n 1, 1) := by decide +kernel
theorem d19_2 : decode jdk_29_method_69_code 2 = .ok (.if_icmp .gt 7, 3) := by decide +kernel
theorem d19_5 : decode jdk_29_method_69_code 5 = .ok (.iload_n 0, 1) := by decide +kernel
theorem d19_6 : decode jdk_29_method_69_code 6 = .ok (.goto 4, 3) := by decide +kernel
theorem d19_9 : decode jdk_29_method_69_code 9 = .ok (.iload_n 1, 1) := by decide +kernel
theorem d19_10 : decode jdk_29_method_69_code 10 = .ok (.ireturn, 1) := by decide +kernel
theorem d20_0 : decode jdk_43_method_23_code 0 = .ok (.iload_n 1, 1) := by decide +kernel
theorem d20_1 : decode jdk_43_method_23_code 1 = .ok (.i2b, 1) := by decide +kernel
theorem d20_2 : decode jdk_43_method_23_code 2 = .ok (.istore 4, 2) := by decide +kernel
theorem d20_4 : decode jdk_43_method_23_code 4 = .ok (.iload_n 2, 1) := by decide +kernel
theorem d20_5 : decode jdk_43_method_23_code 5 = .ok (.istore 5, 2) := by decide +kernel
theorem d20_7 : decode jdk_43_method_23_code 7 = .ok (.iload 5, 2) := by decide +kernel
theorem d20_9 : decode jdk_43_method_23_code 9 = .ok (.iload_n 3, 1) := by decide +kernel
theorem d20_10 : decode jdk_43_method_23_code 10 = .ok (.if_icmp .ge 21, 3) := by decide +kernel
theorem d20_13 : decode jdk_43_method_23_code 13 = .ok (.aload_n 0, 1) := by decide +kernel
theorem d20_14 : decode jdk_43_method_23_code 14 = .ok (.iload 5, 2) := by decide +kernel
theorem d20_16 : decode jdk_43_method_23_code 16 = .ok (.baload, 1) := by decide +kernel
theorem d20_17 : decode jdk_43_method_23_code 17 = .ok (.iload 4, 2) := by decide +kernel
theorem d20_19 : decode jdk_43_method_23_code 19 = .ok (.if_icmp .ne 6, 3) := by decide +kernel
theorem d20_22 : decode jdk_43_method_23_code 22 = .ok (.iload 5, 2) := by decide +kernel
theorem d20_24 : decode jdk_43_method_23_code 24 = .ok (.ireturn, 1) := by decide +kernel
theorem d20_25 : decode jdk_43_method_23_code 25 = .ok (.iinc 5 1, 3) := by decide +kernel
theorem d20_28 : decode jdk_43_method_23_code 28 = .ok (.goto (-21), 3) := by decide +kernel
theorem d20_31 : decode jdk_43_method_23_code 31 = .ok (.iconst (-1), 1) := by decide +kernel
theorem d20_32 : decode jdk_43_method_23_code 32 = .ok (.ireturn, 1) := by decide +kernel
theorem d21_0 : decode jdk_42_method_92_code 0 = .ok (.aload_n 0, 1) := by decide +kernel
theorem d21_1 : decode jdk_42_method_92_code 1 = .ok (.invokevirtual 505, 3) := by decide +kernel
theorem d21_4 : decode jdk_42_method_92_code 4 = .ok (.istore_n 3, 1) := by decide +kernel
theorem d21_5 : decode jdk_42_method_92_code 5 = .ok (.iload_n 1, 1) := by decide +kernel
theorem d21_6 : decode jdk_42_method_92_code 6 = .ok (.iload_n 2, 1) := by decide +kernel
theorem d21_7 : decode jdk_42_method_92_code 7 = .ok (.iload_n 3, 1) := by decide +kernel
theorem d21_8 : decode jdk_42_method_92_code 8 = .ok (.invokestatic 521, 3) := by decide +kernel
theorem d21_11 : decode jdk_42_method_92_code 11 = .ok (.iload_n 1, 1) := by decide +kernel
theorem d21_12 : decode jdk_42_method_92_code 12 = .ok (.ifCond .ne 10, 3) := by decide +kernel
theorem d21_15 : decode jdk_42_method_92_code 15 = .ok (.iload_n 2, 1) := by decide +kernel
theorem d21_16 : decode jdk_42_method_92_code 16 = .ok (.iload_n 3, 1) := by decide +kernel
theorem d21_17 : decode jdk_42_method_92_code 17 = .ok (.if_icmp .ne 5, 3) := by decide +kernel
theorem d21_22 : decode jdk_42_method_92_code 22 = .ok (.iload_n 2, 1) := by decide +kernel
theorem d21_23 : decode jdk_42_method_92_code 23 = .ok (.iload_n 1, 1) := by decide +kernel
theorem d21_24 : decode jdk_42_method_92_code 24 = .ok (.isub, 1) := by decide +kernel
theorem d21_25 : decode jdk_42_method_92_code 25 = .ok (.istore 4, 2) := by decide +kernel
theorem d21_27 : decode jdk_42_method_92_code 27 = .ok (.aload_n 0, 1) := by decide +kernel
theorem d21_28 : decode jdk_42_method_92_code 28 = .ok (.invokevirtual 492, 3) := by decide +kernel
theorem d21_31 : decode jdk_42_method_92_code 31 = .ok (.ifCond .eq 16, 3) := by decide +kernel
theorem d21_34 : decode jdk_42_method_92_code 34 = .ok (.aload_n 0, 1) := by decide +kernel
theorem d21_35 : decode jdk_42_method_92_code 35 = .ok (.getfield 9, 3) := by decide +kernel
theorem d21_38 : decode jdk_42_method_92_code 38 = .ok (.iload_n 1, 1) := by decide +kernel
theorem d21_39 : decode jdk_42_method_92_code 39 = .ok (.iload 4, 2) := by decide +kernel
theorem d21_41 : decode jdk_42_method_92_code 41 = .ok (.invokestatic 685, 3) := by decide +kernel
theorem d21_44 : decode jdk_42_method_92_code 44 = .ok (.goto 13, 3) := by decide +kernel
theorem d21_57 : decode jdk_42_method_92_code 57 = .ok (.areturn, 1) := by decide +kernel
theorem d22_0 : decode jdk_42_method_158_code 0 = .ok (.iload_n 0, 1) := by decide +kernel
theorem d22_1 : decode jdk_42_method_158_code 1 = .ok (.iload_n 1, 1) := by decide +kernel
theorem d22_2 : decode jdk_42_method_158_code 2 = .ok (.iload_n 2, 1) := by decide +kernel
theorem d22_3 : decode jdk_42_method_158_code 3 = .ok (.getstatic 1053, 3) := by decide +kernel
theorem d22_6 : decode jdk_42_method_158_code 6 = .ok (.invokestatic 1062, 3) := by decide +kernel
theorem d22_9 : decode jdk_42_method_158_code 9 = .ok (.pop, 1) := by decide +kernel
theorem d22_10 : decode jdk_42_method_158_code 10 = .ok (.return_, 1) := by decide +kernel
theorem d23_0 : decode jdk_41_method_12_code 0 = .ok (.iload_n 0, 1) := by decide +kernel
theorem d23_1 : decode jdk_41_method_12_code 1 = .ok (.ifCond .lt 13, 3) := by decide +kernel
theorem d23_4 : decode jdk_41_method_12_code 4 = .ok (.iload_n 0, 1) := by decide +kernel
theorem d23_5 : decode jdk_41_method_12_code 5 = .ok (.iload_n 1, 1) := by decide +kernel
theorem d23_6 : decode jdk_41_method_12_code 6 = .ok (.if_icmp .gt 8, 3) := by decide +kernel
theorem d23_9 : decode jdk_41_method_12_code 9 = .ok (.iload_n 1, 1) := by decide +kernel
theorem d23_10 : decode jdk_41_method_12_code 10 = .ok (.iload_n 2, 1) := by decide +kernel
theorem d23_11 : decode jdk_41_method_12_code 11 = .ok (.if_icmp .le 11, 3) := by decide +kernel
theorem d23_22 : decode jdk_41_method_12_code 22 = .ok (.iload_n 0, 1) := by decide +kernel
theorem d23_23 : decode jdk_41_method_12_code 23 = .ok (.ireturn, 1) := by decide +kernel
theorem d24_0 : decode jdk_43_method_47_code 0 = .ok (.iload_n 2, 1) := by decide +kernel
theorem d24_1 : decode jdk_43_method_47_code 1 = .ok (.ifCond .ne 6, 3) := by decide +kernel
theorem d24_7 : decode jdk_43_method_47_code 7 = .ok (.new 1, 3) := by decide +kernel
theorem d24_10 : decode jdk_43_method_47_code 10 = .ok (.dup, 1) := by decide +kernel
theorem d24_11 : decode jdk_43_method_47_code 11 = .ok (.aload_n 0, 1) := by decide +kernel
theorem d24_12 : decode jdk_43_method_47_code 12 = .ok (.iload_n 1, 1) := by decide +kernel
theorem d24_13 : decode jdk_43_method_47_code 13 = .ok (.iload_n 1, 1) := by decide +kernel
theorem d24_14 : decode jdk_43_method_47_code 14 = .ok (.iload_n 2, 1) := by decide +kernel
theorem d24_15 : decode jdk_43_method_47_code 15 = .ok (.iadd, 1) := by decide +kernel
theorem d24_16 : decode jdk_43_method_47_code 16 = .ok (.invokestatic 232, 3) := by decide +kernel
theorem d24_19 : decode jdk_43_method_47_code 19 = .ok (.iconst 0, 1) := by decide +kernel
theorem d24_20 : decode jdk_43_method_47_code 20 = .ok (.invokespecial 112, 3) := by decide +kernel
theorem d24_23 : decode jdk_43_method_47_code 23 = .ok (.areturn, 1) := by decide +kernel
theorem d25_0 : decode jdk_65_method_132_code 0 = .ok (.iload_n 1, 1) := by decide +kernel
theorem d25_1 : decode jdk_65_method_132_code 1 = .ok (.ifCond .ne 9, 3) := by decide +kernel
theorem d25_4 : decode jdk_65_method_132_code 4 = .ok (.iload_n 2, 1) := by decide +kernel
theorem d25_5 : decode jdk_65_method_132_code 5 = .ok (.aload_n 0, 1) := by decide +kernel
theorem d25_6 : decode jdk_65_method_132_code 6 = .ok (.arraylength, 1) := by decide +kernel
theorem d25_7 : decode jdk_65_method_132_code 7 = .ok (.if_icmp .eq 10, 3) := by decide +kernel
theorem d25_10 : decode jdk_65_method_132_code 10 = .ok (.aload_n 0, 1) := by decide +kernel
theorem d25_11 : decode jdk_65_method_132_code 11 = .ok (.iload_n 1, 1) := by decide +kernel
theorem d25_12 : decode jdk_65_method_132_code 12 = .ok (.iload_n 2, 1) := by decide +kernel
theorem d25_13 : decode jdk_65_method_132_code 13 = .ok (.invokestatic 339, 3) := by decide +kernel
theorem d25_16 : decode jdk_65_method_132_code 16 = .ok (.areturn, 1) := by decide +kernel
theorem d26_0 : decode jdk_65_method_133_code 0 = .ok (.iload_n 1, 1) := by decide +kernel
theorem d26_1 : decode jdk_65_method_133_code 1 = .ok (.iload_n 2, 1) := by decide +kernel
theorem d26_2 : decode jdk_65_method_133_code 2 = .ok (.invokestatic 343, 3) := by decide +kernel
theorem d26_5 : decode jdk_65_method_133_code 5 = .ok (.iload_n 2, 1) := by decide +kernel
theorem d26_6 : decode jdk_65_method_133_code 6 = .ok (.iload_n 1, 1) := by decide +kernel
theorem d26_7 : decode jdk_65_method_133_code 7 = .ok (.isub, 1) := by decide +kernel
theorem d26_8 : decode jdk_65_method_133_code 8 = .ok (.istore_n 3, 1) := by decide +kernel
theorem d26_9 : decode jdk_65_method_133_code 9 = .ok (.iload_n 3, 1) := by decide +kernel
theorem d26_10 : decode jdk_65_method_133_code 10 = .ok (.newarray .byte, 2) := by decide +kernel
theorem d26_12 : decode jdk_65_method_133_code 12 = .ok (.astore 4, 2) := by decide +kernel
theorem d26_14 : decode jdk_65_method_133_code 14 = .ok (.aload_n 0, 1) := by decide +kernel
theorem d26_15 : decode jdk_65_method_133_code 15 = .ok (.iload_n 1, 1) := by decide +kernel
theorem d26_16 : decode jdk_65_method_133_code 16 = .ok (.aload 4, 2) := by decide +kernel
theorem d26_18 : decode jdk_65_method_133_code 18 = .ok (.iconst 0, 1) := by decide +kernel
theorem d26_19 : decode jdk_65_method_133_code 19 = .ok (.aload_n 0, 1) := by decide +kernel
theorem d26_20 : decode jdk_65_method_133_code 20 = .ok (.arraylength, 1) := by decide +kernel
theorem d26_21 : decode jdk_65_method_133_code 21 = .ok (.iload_n 1, 1) := by decide +kernel
theorem d26_22 : decode jdk_65_method_133_code 22 = .ok (.isub, 1) := by decide +kernel
theorem d26_23 : decode jdk_65_method_133_code 23 = .ok (.iload_n 3, 1) := by decide +kernel
theorem d26_24 : decode jdk_65_method_133_code 24 = .ok (.invokestatic 304, 3) := by decide +kernel
theorem d26_27 : decode jdk_65_method_133_code 27 = .ok (.invokestatic 150, 3) := by decide +kernel
theorem d26_30 : decode jdk_65_method_133_code 30 = .ok (.aload 4, 2) := by decide +kernel
theorem d26_32 : decode jdk_65_method_133_code 32 = .ok (.areturn, 1) := by decide +kernel
theorem d27_0 : decode jdk_65_method_131_code 0 = .ok (.iload_n 1, 1) := by decide +kernel
theorem d27_1 : decode jdk_65_method_131_code 1 = .ok (.iload_n 0, 1) := by decide +kernel
theorem d27_2 : decode jdk_65_method_131_code 2 = .ok (.if_icmp .ge 35, 3) := by decide +kernel
theorem d27_37 : decode jdk_65_method_131_code 37 = .ok (.return_, 1) := by decide +kernel
theorem d28_0 : decode jdk_42_method_151_code 0 = .ok (.aload_n 0, 1) := by decide +kernel
theorem d28_1 : decode jdk_42_method_151_code 1 = .ok (.invokespecial 1, 3) := by decide +kernel
theorem d28_4 : decode jdk_42_method_151_code 4 = .ok (.aload_n 0, 1) := by decide +kernel
theorem d28_5 : decode jdk_42_method_151_code 5 = .ok (.aload_n 1, 1) := by decide +kernel
theorem d28_6 : decode jdk_42_method_151_code 6 = .ok (.putfield 9, 3) := by decide +kernel
theorem d28_9 : decode jdk_42_method_151_code 9 = .ok (.aload_n 0, 1) := by decide +kernel
theorem d28_10 : decode jdk_42_method_151_code 10 = .ok (.iload_n 2, 1) := by decide +kernel
theorem d28_11 : decode jdk_42_method_151_code 11 = .ok (.putfield 15, 3) := by decide +kernel
theorem d28_14 : decode jdk_42_method_151_code 14 = .ok (.return_, 1) := by decide +kernel
theorem pd0 : parseMethodDescriptor "(I)C" = some ⟨[.int], some .char⟩ := by decide +kernel
theorem pd1 : parseMethodDescriptor "(I)Z" = some ⟨[.int], some .boolean⟩ := by decide +kernel
theorem pd2 : parseMethodDescriptor "(II)I" = some ⟨[.int, .int], some .int⟩ := by decide +kernel
theorem pd3 : parseMethodDescriptor "([BIII)I" = some ⟨[(.array .byte), .int, .int, .int], some .int⟩ := by decide +kernel
theorem pd4 : parseMethodDescriptor "()Z" = some ⟨[], some .boolean⟩ := by decide +kernel
theorem pd5 : parseMethodDescriptor "()I" = some ⟨[], some .int⟩ := by decide +kernel
theorem pd6 : parseMethodDescriptor "(IIILjava/util/function/BiFunction;)I" = some ⟨[.int, .int, .int, (.object "java/util/function/BiFunction")], some .int⟩ := by decide +kernel
theorem pd7 : parseMethodDescriptor "(II)V" = some ⟨[.int, .int], none⟩ := by decide +kernel
theorem pd8 : parseMethodDescriptor "([BII)[B" = some ⟨[(.array .byte), .int, .int], some (.array .byte)⟩ := by decide +kernel
theorem pd9 : parseMethodDescriptor "([BB)V" = some ⟨[(.array .byte), .byte], none⟩ := by decide +kernel
theorem pd10 : parseMethodDescriptor "(III)V" = some ⟨[.int, .int, .int], none⟩ := by decide +kernel
theorem pd11 : parseMethodDescriptor "([BII)Ljava/lang/String;" = some ⟨[(.array .byte), .int, .int], some (.object "java/lang/String")⟩ := by decide +kernel
theorem pd12 : parseMethodDescriptor "([C)V" = some ⟨[(.array .char)], none⟩ := by decide +kernel
theorem pd13 : parseMethodDescriptor "(I)I" = some ⟨[.int], some .int⟩ := by decide +kernel
theorem pd14 : parseMethodDescriptor "(II)Ljava/lang/String;" = some ⟨[.int, .int], some (.object "java/lang/String")⟩ := by decide +kernel
theorem pd15 : parseMethodDescriptor "([CI)Ljava/lang/String;" = some ⟨[(.array .char), .int], some (.object "java/lang/String")⟩ := by decide +kernel
theorem pd16 : parseMethodDescriptor "(Ljava/lang/String;)Ljava/lang/String;" = some ⟨[(.object "java/lang/String")], some (.object "java/lang/String")⟩ := by decide +kernel
theorem pd17 : parseMethodDescriptor "(Ljava/lang/Object;)Z" = some ⟨[(.object "java/lang/Object")], some .boolean⟩ := by decide +kernel
theorem ef0 (m : MethodId) (x0 : Int32) : entryFrame m #[(.int x0)] 2 = mkF m 0 #[.val (.int x0), .unset] [] := by first | (simp [entryFrame, mkF, argsToLocals, cat_int, cat_long, cat_refv, cat_null]; done) | rfl
theorem ef1 (m : MethodId) (x0 : Addr) : entryFrame m #[(.ref x0)] 1 = mkF m 0 #[.val (.ref x0)] [] := by first | (simp [entryFrame, mkF, argsToLocals, cat_int, cat_long, cat_refv, cat_null]; done) | rfl
theorem ef2 (m : MethodId) (x0 : Int32) : entryFrame m #[(.int x0)] 1 = mkF m 0 #[.val (.int x0)] [] := by first | (simp [entryFrame, mkF, argsToLocals, cat_int, cat_long, cat_refv, cat_null]; done) | rfl
theorem ef3 (m : MethodId) (x0 : Int32) (x1 : Int32) : entryFrame m #[(.int x0), (.int x1)] 2 = mkF m 0 #[.val (.int x0), .val (.int x1)] [] := by first | (simp [entryFrame, mkF, argsToLocals, cat_int, cat_long, cat_refv, cat_null]; done) | rfl
theorem ef4 (m : MethodId) (x0 : Addr) (x1 : Int32) (x2 : Int32) (x3 : Int32) : entryFrame m #[(.ref x0), (.int x1), (.int x2), (.int x3)] 6 = mkF m 0 #[.val (.ref x0), .val (.int x1), .val (.int x2), .val (.int x3), .unset, .unset] [] := by first | (simp [entryFrame, mkF, argsToLocals, cat_int, cat_long, cat_refv, cat_null]; done) | rfl
theorem ef5 (m : MethodId) (x0 : Addr) (x1 : Int32) (x2 : Int32) (x3 : Int32) : entryFrame m #[(.ref x0), (.int x1), (.int x2), (.int x3)] 4 = mkF m 0 #[.val (.ref x0), .val (.int x1), .val (.int x2), .val (.int x3)] [] := by first | (simp [entryFrame, mkF, argsToLocals, cat_int, cat_long, cat_refv, cat_null]; done) | rfl
theorem ef6 (m : MethodId) (x0 : Addr) (x1 : Int32) (x2 : Int32) : entryFrame m #[(.ref x0), (.int x1), (.int x2)] 3 = mkF m 0 #[.val (.ref x0), .val (.int x1), .val (.int x2)] [] := by first | (simp [entryFrame, mkF, argsToLocals, cat_int, cat_long, cat_refv, cat_null]; done) | rfl
theorem ef7 (m : MethodId) (x0 : Addr) (x1 : Int32) : entryFrame m #[(.ref x0), (.int x1)] 2 = mkF m 0 #[.val (.ref x0), .val (.int x1)] [] := by first | (simp [entryFrame, mkF, argsToLocals, cat_int, cat_long, cat_refv, cat_null]; done) | rfl
theorem ef8 (m : MethodId) (x0 : Int32) (x1 : Int32) (x2 : Int32) (x3 : Value) (c3 : x3.category = 1) : entryFrame m #[(.int x0), (.int x1), (.int x2), x3] 4 = mkF m 0 #[.val (.int x0), .val (.int x1), .val (.int x2), .val x3] [] := by first | (simp [entryFrame, mkF, argsToLocals, cat_int, cat_long, cat_refv, cat_null, c3]; done) | rfl
theorem ef9 (m : MethodId) (x0 : Int32) (x1 : Int32) (x2 : Int32) : entryFrame m #[(.int x0), (.int x1), (.int x2)] 3 = mkF m 0 #[.val (.int x0), .val (.int x1), .val (.int x2)] [] := by first | (simp [entryFrame, mkF, argsToLocals, cat_int, cat_long, cat_refv, cat_null]; done) | rfl
theorem ef10 (m : MethodId) (x0 : Addr) (x1 : Int32) (x2 : Int32) : entryFrame m #[(.ref x0), (.int x1), (.int x2)] 5 = mkF m 0 #[.val (.ref x0), .val (.int x1), .val (.int x2), .unset, .unset] [] := by first | (simp [entryFrame, mkF, argsToLocals, cat_int, cat_long, cat_refv, cat_null]; done) | rfl
theorem ef11 (m : MethodId) (x0 : Addr) (x1 : Addr) (x2 : Int32) : entryFrame m #[(.ref x0), (.ref x1), (.int x2)] 3 = mkF m 0 #[.val (.ref x0), .val (.ref x1), .val (.int x2)] [] := by first | (simp [entryFrame, mkF, argsToLocals, cat_int, cat_long, cat_refv, cat_null]; done) | rfl
theorem ef12 (m : MethodId) (x0 : Int64) (x1 : Int32) (x2 : Int32) : entryFrame m #[(.long x0), (.int x1), (.int x2)] maxLocals = mkF m 0 #[.val (.long x0), .second, .val (.int x1), .val (.int x2), .unset, .unset, .unset, .unset, .unset, .unset, .unset, .unset, .unset, .unset, .unset, .unset, .unset] [] := by first | (simp [entryFrame, mkF, argsToLocals, cat_int, cat_long, cat_refv, cat_null, maxLocals]; done) | rfl
theorem m4 (x : Int32) : x &&& (3 : Int32) = 0 ∨ x &&& (3 : Int32) = 1 ∨ x &&& (3 : Int32) = 2 ∨ x &&& (3 : Int32) = 3 := by
  have h1 : (x &&& (3 : Int32)).toInt = x.toInt % 2 ^ 2 := Jvm.Kit.i32_mask x 3 (k := 2) (by decide) (by decide)
  have q : (x &&& (3 : Int32)).toInt = 0 ∨ (x &&& (3 : Int32)).toInt = 1 ∨ (x &&& (3 : Int32)).toInt = 2 ∨ (x &&& (3 : Int32)).toInt = 3 := by rw [h1]; omega
  rcases q with q | q | q | q
  · exact Or.inl (Int32.toInt_inj.mp (q.trans rfl))
  · exact Or.inr (Or.inl (Int32.toInt_inj.mp (q.trans rfl)))
  · exact Or.inr (Or.inr (Or.inl (Int32.toInt_inj.mp (q.trans rfl))))
  · exact Or.inr (Or.inr (Or.inr (Int32.toInt_inj.mp (q.trans rfl))))
theorem m1 (x : Int32) : x &&& (1 : Int32) = 0 ∨ x &&& (1 : Int32) = 1 := by
  have h1 : (x &&& (1 : Int32)).toInt = x.toInt % 2 ^ 1 := Jvm.Kit.i32_mask x 1 (k := 1) (by decide) (by decide)
  have q : (x &&& (1 : Int32)).toInt = 0 ∨ (x &&& (1 : Int32)).toInt = 1 := by rw [h1]; omega
  rcases q with q | q
  · exact Or.inl (Int32.toInt_inj.mp (q.trans rfl))
  · exact Or.inr (Int32.toInt_inj.mp (q.trans rfl))
theorem own_d {v x : Int32} (h : v = (1 : Int32) + (x &&& (3 : Int32))) : v = 1 ∨ v = 2 ∨ v = 3 ∨ v = 4 := by
  rcases m4 x with q | q | q | q <;> rw [q] at h <;> subst h <;> decide
theorem own_nl {v x : Int32} (h : v = (1 : Int32) + (x &&& (1 : Int32))) : v = 1 ∨ v = 2 := by
  rcases m1 x with q | q <;> rw [q] at h <;> subst h <;> decide
theorem rem_fin (x : Int32) (M : Int32) (m : Nat) (hm : M = Int32.ofNat m) (h0 : 0 < m) (h1 : m ≤ 4000) : ∃ k : Fin m, (x &&& (65535 : Int32)) % M = Int32.ofNat k.val := by
  have e1 : (x &&& (65535 : Int32)).toInt = x.toInt % 2 ^ 16 := Jvm.Kit.i32_mask x 65535 (k := 16) (by decide) (by decide)
  have e2 := Jvm.Kit.i32_rem_nonneg (x := x &&& (65535 : Int32)) (y := M) (by rw [e1]; omega)
  have e3 : M.toInt = (m : Int) := by rw [hm]; exact ofn h1
  rw [e3] at e2
  have p0 : 0 ≤ ((x &&& (65535 : Int32)) % M).toInt := by rw [e2]; exact Int.emod_nonneg _ (by omega)
  have p1 : ((x &&& (65535 : Int32)) % M).toInt < m := by rw [e2]; exact Int.emod_lt_of_pos _ (by omega)
  refine ⟨⟨((x &&& (65535 : Int32)) % M).toInt.toNat, by omega⟩, Int32.toInt_inj.mp ?_⟩
  rw [ofn (by show ((x &&& (65535 : Int32)) % M).toInt.toNat ≤ 4000; omega)]
  show _ = (((x &&& (65535 : Int32)) % M).toInt.toNat : Int)
  omega
def f_letter (x0 : Int32) : Int32 := (if ((x0 &&& (65535 : Int32)) % (53 : Int32)) < (26 : Int32) then (OwnKit.i2c ((97 : Int32) + ((x0 &&& (65535 : Int32)) % (53 : Int32)))) else (if ((x0 &&& (65535 : Int32)) % (53 : Int32)) < (52 : Int32) then (OwnKit.i2c ((65 : Int32) + (((x0 &&& (65535 : Int32)) % (53 : Int32)) - (26 : Int32)))) else (233 : Int32)))
def Qletter (Z : State) (x0 : Int32) (h0 : Heap) : Option Value → Heap → Prop := fun v h => v = some (.int (f_letter x0)) ∧ h = h0
set_option maxRecDepth 65536 in
set_option maxHeartbeats 40000000 in
theorem rmletter (l : Launch) (Z : State) (a0 : Array Value) (hw : ∀ d ∈ tables_1, d.before a0 Z = true) (x0 : Int32) (h0 : Heap) (O : Ext Z.heap h0) :
    CN [] l Z (⟨"com/example/federation/federation/NamesDomainOfPinLaw", "letter", "(I)C"⟩ : MethodName) method_2_code 2 (Option.some Jvm.ClassFile.FieldType.char) ({ frames := 0, cells := 0, slots := 0, locals := 0 } : Room) #[(.int x0)] h0 [] (Qletter Z x0 h0) := by
  refine CN.of_walk (plainFor_of_name pn0) O (fun _ q => nomatch q) ?_
  intro p e s m below meth c T0 W0 hx hby hml hoZ hnm hret hlk
  have H0 := W0.here; have hz0 := W0.zsize
  refine Goes.cast (ef0 m x0) ?_
  refine G.iloadN H0 hx 1 (hb hby d1_0) rfl rfl ?_
  refine Wk.ldcI W0 hx hoZ (wd hw 4 rfl) 3 (hb hby d1_1) rfl ?_
  refine G.iand H0 hx 4 (hb hby d1_3) rfl ?_
  refine G.bipush H0 hx 6 (53 : Int32) (hb hby d1_4) rfl rfl ?_
  refine G.irem H0 hx 7 (hb hby d1_6) (by decide) rfl ?_
  refine G.istoreNX H0 hx 8 #[.val (.int x0), .val (.int ((x0 &&& (65535 : Int32)) % (53 : Int32)))] (hb hby d1_7) rfl rfl ?_
  refine G.iloadN H0 hx 9 (hb hby d1_8) rfl rfl ?_
  refine G.bipush H0 hx 11 (26 : Int32) (hb hby d1_9) rfl rfl ?_
  by_cases c11_101 : ((x0 &&& (65535 : Int32)) % (53 : Int32)) < (26 : Int32)
  ·
    refine G.icmpN H0 hx 14 (hb hby d1_11) (tlt c11_101).2.1 rfl ?_
    refine G.bipush H0 hx 16 (97 : Int32) (hb hby d1_14) rfl rfl ?_
    refine G.iloadN H0 hx 17 (hb hby d1_16) rfl rfl ?_
    refine G.iadd H0 hx 18 (hb hby d1_17) rfl ?_
    refine G.i2c H0 hx 19 (hb hby d1_18) rfl ?_
    exact Wk.retN W0 hx (OwnKit.i2c ((97 : Int32) + ((x0 &&& (65535 : Int32)) % (53 : Int32)))) (t := .char) (nar_c16 (i2c_c16 _)) (by simp) hret hlk (hb hby d1_19) (by decide) (by decide) ⟨(by simp only [f_letter, if_pos c11_101]), rfl⟩
  ·
    refine G.icmpY H0 hx 20 (hb hby d1_11) (flt c11_101).2.1 (by decide) rfl ?_
    refine G.iloadN H0 hx 21 (hb hby d1_20) rfl rfl ?_
    refine G.bipush H0 hx 23 (52 : Int32) (hb hby d1_21) rfl rfl ?_
    by_cases c23_102 : ((x0 &&& (65535 : Int32)) % (53 : Int32)) < (52 : Int32)
    ·
      refine G.icmpN H0 hx 26 (hb hby d1_23) (tlt c23_102).2.1 rfl ?_
      refine G.bipush H0 hx 28 (65 : Int32) (hb hby d1_26) rfl rfl ?_
      refine G.iloadN H0 hx 29 (hb hby d1_28) rfl rfl ?_
      refine G.bipush H0 hx 31 (26 : Int32) (hb hby d1_29) rfl rfl ?_
      refine G.isub H0 hx 32 (hb hby d1_31) rfl ?_
      refine G.iadd H0 hx 33 (hb hby d1_32) rfl ?_
      refine G.i2c H0 hx 34 (hb hby d1_33) rfl ?_
      exact Wk.retN W0 hx (OwnKit.i2c ((65 : Int32) + (((x0 &&& (65535 : Int32)) % (53 : Int32)) - (26 : Int32)))) (t := .char) (nar_c16 (i2c_c16 _)) (by simp) hret hlk (hb hby d1_34) (by decide) (by decide) ⟨(by simp only [f_letter, if_neg c11_101, if_pos c23_102]), rfl⟩
    ·
      refine G.icmpY H0 hx 35 (hb hby d1_23) (flt c23_102).2.1 (by decide) rfl ?_
      refine G.sipush H0 hx 38 (233 : Int32) (hb hby d1_35) rfl rfl ?_
      exact Wk.retN W0 hx (233 : Int32) (t := .char) (by decide) (by simp) hret hlk (hb hby d1_38) (by decide) (by decide) ⟨(by simp only [f_letter, if_neg c11_101, if_neg c23_102]), rfl⟩
theorem f_letter_c16 (x0 : Int32) : C16 (f_letter x0) := by
  unfold f_letter
  split
  ·
    exact i2c_c16 _
  ·
    split
    ·
      exact i2c_c16 _
    ·
      exact C16.of (by decide)
def f_nameChar (x0 : Int32) : Int32 := (if ((x0 &&& (65535 : Int32)) % (66 : Int32)) < (52 : Int32) then (f_letter ((x0 &&& (65535 : Int32)) % (66 : Int32))) else (if ((x0 &&& (65535 : Int32)) % (66 : Int32)) < (62 : Int32) then (OwnKit.i2c ((48 : Int32) + (((x0 &&& (65535 : Int32)) % (66 : Int32)) - (52 : Int32)))) else (if ((x0 &&& (65535 : Int32)) % (66 : Int32)) = (62 : Int32) then (95 : Int32) else (if ((x0 &&& (65535 : Int32)) % (66 : Int32)) = (63 : Int32) then (45 : Int32) else (if ((x0 &&& (65535 : Int32)) % (66 : Int32)) = (64 : Int32) then (46 : Int32) else (233 : Int32))))))
def QnameChar (Z : State) (x0 : Int32) (h0 : Heap) : Option Value → Heap → Prop := fun v h => v = some (.int (f_nameChar x0)) ∧ h = h0
set_option maxRecDepth 65536 in
set_option maxHeartbeats 40000000 in
theorem rmnameChar (l : Launch) (Z : State) (a0 : Array Value) (hw : ∀ d ∈ tables_1, d.before a0 Z = true) (x0 : Int32) (h0 : Heap) (O : Ext Z.heap h0) :
    CN [] l Z (⟨"com/example/federation/federation/NamesDomainOfPinLaw", "nameChar", "(I)C"⟩ : MethodName) method_3_code 2 (Option.some Jvm.ClassFile.FieldType.char) ({ frames := 1, cells := 0, slots := 0, locals := 14 } : Room) #[(.int x0)] h0 [] (QnameChar Z x0 h0) := by
  refine CN.of_walk (plainFor_of_name pn0) O (fun _ q => nomatch q) ?_
  intro p e s m below meth c T0 W0 hx hby hml hoZ hnm hret hlk
  have H0 := W0.here; have hz0 := W0.zsize
  refine Goes.cast (ef0 m x0) ?_
  refine G.iloadN H0 hx 1 (hb hby d2_0) rfl rfl ?_
  refine Wk.ldcI W0 hx hoZ (wd hw 4 rfl) 3 (hb hby d2_1) rfl ?_
  refine G.iand H0 hx 4 (hb hby d2_3) rfl ?_
  refine G.bipush H0 hx 6 (66 : Int32) (hb hby d2_4) rfl rfl ?_
  refine G.irem H0 hx 7 (hb hby d2_6) (by decide) rfl ?_
  refine G.istoreNX H0 hx 8 #[.val (.int x0), .val (.int ((x0 &&& (65535 : Int32)) % (66 : Int32)))] (hb hby d2_7) rfl rfl ?_
  refine G.iloadN H0 hx 9 (hb hby d2_8) rfl rfl ?_
  refine G.bipush H0 hx 11 (52 : Int32) (hb hby d2_9) rfl rfl ?_
  by_cases c11_101 : ((x0 &&& (65535 : Int32)) % (66 : Int32)) < (52 : Int32)
  ·
    refine G.icmpN H0 hx 14 (hb hby d2_11) (tlt c11_101).2.1 rfl ?_
    refine G.iloadN H0 hx 15 (hb hby d2_14) rfl rfl ?_
    refine Wk.callS W0 hx hoZ (y := (⟨"com/example/federation/federation/NamesDomainOfPinLaw", "letter", "(I)C"⟩ : MethodName)) (wd hw 0 rfl) (wd hw 1 rfl) (wd hw 2 rfl) (wd hw 3 rfl) (by decide) (Wd := 0) (CN.back (rmletter l Z a0 hw ((x0 &&& (65535 : Int32)) % (66 : Int32)) h0 W0.old ) W0.warm (wd hw 3 rfl) (wd hw 2 rfl) (by decide) (by decide)) (by rw [hml]; rfl) [(.int ((x0 &&& (65535 : Int32)) % (66 : Int32)))] [] (lenOf pd0 rfl) rfl rfl (Nat.le_of_eq rfl) 18 (hb hby d2_15) rfl (by decide) (by decide) (fun _ q => nomatch q) ?_
    intro v102 T102 h102 W102 K102 Ch102 Q102
    have H102 := W102.here; have z102 := K102.1
    obtain ⟨rfl, eh102⟩ := Q102
    show Goes p e below (PostN s Z h0 [] (QnameChar Z x0 h0) ({ frames := 1, cells := 0, slots := 0, locals := 14 } : Room).cells ({ frames := 1, cells := 0, slots := 0, locals := 14 } : Room).slots) (T102.setTop (mkF m 18 #[.val (.int x0), .val (.int ((x0 &&& (65535 : Int32)) % (66 : Int32)))] [(.int (f_letter ((x0 &&& (65535 : Int32)) % (66 : Int32))))]))
    exact Wk.retN W102 hx (f_letter ((x0 &&& (65535 : Int32)) % (66 : Int32))) (t := .char) (nar_c16 (f_letter_c16 ((x0 &&& (65535 : Int32)) % (66 : Int32)))) (by simp) hret hlk (hb hby d2_18) (by decide) (by decide) ⟨(by simp only [f_nameChar, if_pos c11_101]), (by rw [eh102])⟩
  ·
    refine G.icmpY H0 hx 19 (hb hby d2_11) (flt c11_101).2.1 (by decide) rfl ?_
    refine G.iloadN H0 hx 20 (hb hby d2_19) rfl rfl ?_
    refine G.bipush H0 hx 22 (62 : Int32) (hb hby d2_20) rfl rfl ?_
    by_cases c22_103 : ((x0 &&& (65535 : Int32)) % (66 : Int32)) < (62 : Int32)
    ·
      refine G.icmpN H0 hx 25 (hb hby d2_22) (tlt c22_103).2.1 rfl ?_
      refine G.bipush H0 hx 27 (48 : Int32) (hb hby d2_25) rfl rfl ?_
      refine G.iloadN H0 hx 28 (hb hby d2_27) rfl rfl ?_
      refine G.bipush H0 hx 30 (52 : Int32) (hb hby d2_28) rfl rfl ?_
      refine G.isub H0 hx 31 (hb hby d2_30) rfl ?_
      refine G.iadd H0 hx 32 (hb hby d2_31) rfl ?_
      refine G.i2c H0 hx 33 (hb hby d2_32) rfl ?_
      exact Wk.retN W0 hx (OwnKit.i2c ((48 : Int32) + (((x0 &&& (65535 : Int32)) % (66 : Int32)) - (52 : Int32)))) (t := .char) (nar_c16 (i2c_c16 _)) (by simp) hret hlk (hb hby d2_33) (by decide) (by decide) ⟨(by simp only [f_nameChar, if_neg c11_101, if_pos c22_103]), rfl⟩
    ·
      refine G.icmpY H0 hx 34 (hb hby d2_22) (flt c22_103).2.1 (by decide) rfl ?_
      refine G.iloadN H0 hx 35 (hb hby d2_34) rfl rfl ?_
      refine G.bipush H0 hx 37 (62 : Int32) (hb hby d2_35) rfl rfl ?_
      by_cases c37_104 : ((x0 &&& (65535 : Int32)) % (66 : Int32)) = (62 : Int32)
      ·
        refine G.icmpN H0 hx 40 (hb hby d2_37) (teq c37_104).2 rfl ?_
        refine G.bipush H0 hx 42 (95 : Int32) (hb hby d2_40) rfl rfl ?_
        exact Wk.retN W0 hx (95 : Int32) (t := .char) (by decide) (by simp) hret hlk (hb hby d2_42) (by decide) (by decide) ⟨(by simp only [f_nameChar, if_neg c11_101, if_neg c22_103, if_pos c37_104]), rfl⟩
      ·
        refine G.icmpY H0 hx 43 (hb hby d2_37) (feq c37_104).2 (by decide) rfl ?_
        refine G.iloadN H0 hx 44 (hb hby d2_43) rfl rfl ?_
        refine G.bipush H0 hx 46 (63 : Int32) (hb hby d2_44) rfl rfl ?_
        by_cases c46_105 : ((x0 &&& (65535 : Int32)) % (66 : Int32)) = (63 : Int32)
        ·
          refine G.icmpN H0 hx 49 (hb hby d2_46) (teq c46_105).2 rfl ?_
          refine G.bipush H0 hx 51 (45 : Int32) (hb hby d2_49) rfl rfl ?_
          exact Wk.retN W0 hx (45 : Int32) (t := .char) (by decide) (by simp) hret hlk (hb hby d2_51) (by decide) (by decide) ⟨(by simp only [f_nameChar, if_neg c11_101, if_neg c22_103, if_neg c37_104, if_pos c46_105]), rfl⟩
        ·
          refine G.icmpY H0 hx 52 (hb hby d2_46) (feq c46_105).2 (by decide) rfl ?_
          refine G.iloadN H0 hx 53 (hb hby d2_52) rfl rfl ?_
          refine G.bipush H0 hx 55 (64 : Int32) (hb hby d2_53) rfl rfl ?_
          by_cases c55_106 : ((x0 &&& (65535 : Int32)) % (66 : Int32)) = (64 : Int32)
          ·
            refine G.icmpN H0 hx 58 (hb hby d2_55) (teq c55_106).2 rfl ?_
            refine G.bipush H0 hx 60 (46 : Int32) (hb hby d2_58) rfl rfl ?_
            exact Wk.retN W0 hx (46 : Int32) (t := .char) (by decide) (by simp) hret hlk (hb hby d2_60) (by decide) (by decide) ⟨(by simp only [f_nameChar, if_neg c11_101, if_neg c22_103, if_neg c37_104, if_neg c46_105, if_pos c55_106]), rfl⟩
          ·
            refine G.icmpY H0 hx 61 (hb hby d2_55) (feq c55_106).2 (by decide) rfl ?_
            refine G.sipush H0 hx 64 (233 : Int32) (hb hby d2_61) rfl rfl ?_
            exact Wk.retN W0 hx (233 : Int32) (t := .char) (by decide) (by simp) hret hlk (hb hby d2_64) (by decide) (by decide) ⟨(by simp only [f_nameChar, if_neg c11_101, if_neg c22_103, if_neg c37_104, if_neg c46_105, if_neg c55_106]), rfl⟩
theorem f_nameChar_c16 (x0 : Int32) : C16 (f_nameChar x0) := by
  unfold f_nameChar
  split
  ·
    exact f_letter_c16 _
  ·
    split
    ·
      exact i2c_c16 _
    ·
      split
      ·
        exact C16.of (by decide)
      ·
        split
        ·
          exact C16.of (by decide)
        ·
          split
          ·
            exact C16.of (by decide)
          ·
            exact C16.of (by decide)
def gl (r : Int32) : Int32 := (if r < (26 : Int32) then (OwnKit.i2c ((97 : Int32) + r)) else (if r < (52 : Int32) then (OwnKit.i2c ((65 : Int32) + (r - (26 : Int32)))) else (233 : Int32)))
def gn (r : Int32) : Int32 := (if r < (52 : Int32) then (f_letter r) else (if r < (62 : Int32) then (OwnKit.i2c ((48 : Int32) + (r - (52 : Int32)))) else (if r = (62 : Int32) then (95 : Int32) else (if r = (63 : Int32) then (45 : Int32) else (if r = (64 : Int32) then (46 : Int32) else (233 : Int32))))))
theorem own_l1 {v x : Int32} (h : v = f_letter x) : C8 v ∧ ¬ v = 58 := by
  obtain ⟨k, hk⟩ := rem_fin x 53 53 rfl (by decide) (by decide)
  have e : v = gl ((x &&& (65535 : Int32)) % (53 : Int32)) := h
  rw [hk] at e; subst e
  exact (by decide +kernel : ∀ k : Fin 53, (¬ gl (Int32.ofNat k.val) < 0 ∧ ¬ (255 : Int32) < gl (Int32.ofNat k.val)) ∧ ¬ gl (Int32.ofNat k.val) = 58) k
theorem own_l2 {v x : Int32} (h : v = f_nameChar x) : C8 v ∧ ¬ v = 58 := by
  obtain ⟨k, hk⟩ := rem_fin x 66 66 rfl (by decide) (by decide)
  have e : v = gn ((x &&& (65535 : Int32)) % (66 : Int32)) := h
  rw [hk] at e; subst e
  exact (by decide +kernel : ∀ k : Fin 66, (¬ gn (Int32.ofNat k.val) < 0 ∧ ¬ (255 : Int32) < gn (Int32.ofNat k.val)) ∧ ¬ gn (Int32.ofNat k.val) = 58) k
def QLat (Z : State) (cz : Int32) (a : Addr) (h0 : Heap) : Option Value → Heap → Prop := fun v h => v = some (.int 1) ∧ h = h0
set_option maxRecDepth 65536 in
set_option maxHeartbeats 40000000 in
theorem rmLat (l : Launch) (Z : State) (a0 : Array Value) (hw : ∀ d ∈ tables_1, d.before a0 Z = true) (cz : Int32) (a : Addr) (h0 : Heap) (O : Ext Z.heap h0) (hCS : Sta Z Z.heap "java/lang/String" "COMPACT_STRINGS" "Z" (.int cz)) (hcz : ¬ cz = 0) (Ea : Exa Z h0 a "java/lang/String") (Fc : Fld Z h0 a "java/lang/String" "coder" "B" (.int 0)) :
    CN [] l Z (⟨"java/lang/String", "isLatin1", "()Z"⟩ : MethodName) jdk_42_method_154_code 1 (Option.some Jvm.ClassFile.FieldType.boolean) ({ frames := 0, cells := 0, slots := 0, locals := 0 } : Room) #[(.ref a)] h0 [] (QLat Z cz a h0) := by
  refine CN.of_walk (plainFor_of_name pn1) O (fun _ q => nomatch q) ?_
  intro p e s m below meth c T0 W0 hx hby hml hoZ hnm hret hlk
  have H0 := W0.here; have hz0 := W0.zsize
  refine Goes.cast (ef1 m a) ?_
  refine Wk.getS W0 hx hoZ (wd hw 25 rfl) Via.refl (hCS.ext W0.old) 3 (hb hby d13_0) rfl ?_
  intro T101 W101; have H101 := W101.here
  refine G.ifN H101 hx 6 (hb hby d13_3) (zne hcz).1 rfl ?_
  refine G.aloadN H101 hx 7 (hb hby d13_6) rfl rfl rfl ?_
  refine Wk.getF W101 hx hoZ (host := "") (Or.inl (wd hw 37 rfl)) Via.refl Fc 10 (hb hby d13_7) rfl ?_
  intro T102 W102; have H102 := W102.here
  refine G.ifN H102 hx 13 (hb hby d13_10) (zeq (by decide)).2 rfl ?_
  refine G.iconst H102 hx 14 (1 : Int32) (hb hby d13_13) rfl rfl ?_
  refine G.goto H102 hx 18 (hb hby d13_14) (by decide) rfl ?_
  exact Wk.retN W102 hx (1 : Int32) (t := .boolean) rfl (by simp) hret hlk (hb hby d13_18) (by decide) (by decide) ⟨rfl, rfl⟩
def QCanI (Z : State) (x : Int32) (h0 : Heap) : Option Value → Heap → Prop := fun v h => v = some (.int 1) ∧ h = h0
set_option maxRecDepth 65536 in
set_option maxHeartbeats 40000000 in
theorem rmCanI (l : Launch) (Z : State) (a0 : Array Value) (hw : ∀ d ∈ tables_1, d.before a0 Z = true) (x : Int32) (h0 : Heap) (O : Ext Z.heap h0) (hx8 : C8 x) :
    CN [] l Z (⟨"java/lang/StringLatin1", "canEncode", "(I)Z"⟩ : MethodName) jdk_43_method_4_code 1 (Option.some Jvm.ClassFile.FieldType.boolean) ({ frames := 0, cells := 0, slots := 0, locals := 0 } : Room) #[(.int x)] h0 [] (QCanI Z x h0) := by
  refine CN.of_walk (plainFor_of_name pn2) O (fun _ q => nomatch q) ?_
  intro p e s m below meth c T0 W0 hx hby hml hoZ hnm hret hlk
  have H0 := W0.here; have hz0 := W0.zsize
  refine Goes.cast (ef2 m x) ?_
  refine G.iloadN H0 hx 1 (hb hby d17_0) rfl rfl ?_
  refine G.ifN H0 hx 4 (hb hby d17_1) (znl hx8.1).1 rfl ?_
  refine G.iloadN H0 hx 5 (hb hby d17_4) rfl rfl ?_
  refine G.sipush H0 hx 8 (255 : Int32) (hb hby d17_5) rfl rfl ?_
  refine G.icmpN H0 hx 11 (hb hby d17_8) (flt hx8.2).2.2.1 rfl ?_
  refine G.iconst H0 hx 12 (1 : Int32) (hb hby d17_11) rfl rfl ?_
  refine G.goto H0 hx 16 (hb hby d17_12) (by decide) rfl ?_
  exact Wk.retN W0 hx (1 : Int32) (t := .boolean) rfl (by simp) hret hlk (hb hby d17_16) (by decide) (by decide) ⟨rfl, rfl⟩
def f_max (x0 : Int32) (x1 : Int32) : Int32 := (if x0 < x1 then x1 else x0)
def Qmax (Z : State) (x0 : Int32) (x1 : Int32) (h0 : Heap) : Option Value → Heap → Prop := fun v h => v = some (.int (f_max x0 x1)) ∧ h = h0
set_option maxRecDepth 65536 in
set_option maxHeartbeats 40000000 in
theorem rmmax (l : Launch) (Z : State) (a0 : Array Value) (hw : ∀ d ∈ tables_1, d.before a0 Z = true) (x0 : Int32) (x1 : Int32) (h0 : Heap) (O : Ext Z.heap h0) :
    CN [] l Z (⟨"java/lang/Math", "max", "(II)I"⟩ : MethodName) jdk_29_method_65_code 2 (Option.some Jvm.ClassFile.FieldType.int) ({ frames := 0, cells := 0, slots := 0, locals := 0 } : Room) #[(.int x0), (.int x1)] h0 [] (Qmax Z x0 x1 h0) := by
  refine CN.of_walk (Jvm.Free.JP.mathPlain rfl (by decide +kernel)) O (fun _ q => nomatch q) ?_
  intro p e s m below meth c T0 W0 hx hby hml hoZ hnm hret hlk
  have H0 := W0.here; have hz0 := W0.zsize
  refine Goes.cast (ef3 m x0 x1) ?_
  refine G.iloadN H0 hx 1 (hb hby d18_0) rfl rfl ?_
  refine G.iloadN H0 hx 2 (hb hby d18_1) rfl rfl ?_
  by_cases c2_101 : x0 < x1
  ·
    refine G.icmpY H0 hx 9 (hb hby d18_2) (tlt c2_101).1 (by decide) rfl ?_
    refine G.iloadN H0 hx 10 (hb hby d18_9) rfl rfl ?_
    exact Wk.retI W0 hx hret hlk (hb hby d18_10) (by decide) (by decide) ⟨(by simp only [f_max, if_pos c2_101]), rfl⟩
  ·
    refine G.icmpN H0 hx 5 (hb hby d18_2) (flt c2_101).1 rfl ?_
    refine G.iloadN H0 hx 6 (hb hby d18_5) rfl rfl ?_
    refine G.goto H0 hx 10 (hb hby d18_6) (by decide) rfl ?_
    exact Wk.retI W0 hx hret hlk (hb hby d18_10) (by decide) (by decide) ⟨(by simp only [f_max, if_neg c2_101]), rfl⟩
def f_min (x0 : Int32) (x1 : Int32) : Int32 := (if x1 < x0 then x1 else x0)
def Qmin (Z : State) (x0 : Int32) (x1 : Int32) (h0 : Heap) : Option Value → Heap → Prop := fun v h => v = some (.int (f_min x0 x1)) ∧ h = h0
set_option maxRecDepth 65536 in
set_option maxHeartbeats 40000000 in
theorem rmmin (l : Launch) (Z : State) (a0 : Array Value) (hw : ∀ d ∈ tables_1, d.before a0 Z = true) (x0 : Int32) (x1 : Int32) (h0 : Heap) (O : Ext Z.heap h0) :
    CN [] l Z (⟨"java/lang/Math", "min", "(II)I"⟩ : MethodName) jdk_29_method_69_code 2 (Option.some Jvm.ClassFile.FieldType.int) ({ frames := 0, cells := 0, slots := 0, locals := 0 } : Room) #[(.int x0), (.int x1)] h0 [] (Qmin Z x0 x1 h0) := by
  refine CN.of_walk (Jvm.Free.JP.mathPlain rfl (by decide +kernel)) O (fun _ q => nomatch q) ?_
  intro p e s m below meth c T0 W0 hx hby hml hoZ hnm hret hlk
  have H0 := W0.here; have hz0 := W0.zsize
  refine Goes.cast (ef3 m x0 x1) ?_
  refine G.iloadN H0 hx 1 (hb hby d19_0) rfl rfl ?_
  refine G.iloadN H0 hx 2 (hb hby d19_1) rfl rfl ?_
  by_cases c2_101 : x1 < x0
  ·
    refine G.icmpY H0 hx 9 (hb hby d19_2) (tlt c2_101).2.2.1 (by decide) rfl ?_
    refine G.iloadN H0 hx 10 (hb hby d19_9) rfl rfl ?_
    exact Wk.retI W0 hx hret hlk (hb hby d19_10) (by decide) (by decide) ⟨(by simp only [f_min, if_pos c2_101]), rfl⟩
  ·
    refine G.icmpN H0 hx 5 (hb hby d19_2) (flt c2_101).2.2.1 rfl ?_
    refine G.iloadN H0 hx 6 (hb hby d19_5) rfl rfl ?_
    refine G.goto H0 hx 10 (hb hby d19_6) (by decide) rfl ?_
    exact Wk.retI W0 hx hret hlk (hb hby d19_10) (by decide) (by decide) ⟨(by simp only [f_min, if_neg c2_101]), rfl⟩
theorem f_min_self (x : Int32) : f_min x x = x := by unfold f_min; exact ite_self _
def QIxC (Z : State) (b : Addr) (kb : ClassId) (ch : Int32) (n : Int32) (bs : List Int32) (j : Nat) (h0 : Heap) : Option Value → Heap → Prop := fun v h => v = some (.int (if j < bs.length then Int32.ofNat j else -1)) ∧ h = h0
set_option maxRecDepth 65536 in
set_option maxHeartbeats 40000000 in
theorem rmIxC (l : Launch) (Z : State) (a0 : Array Value) (hw : ∀ d ∈ tables_1, d.before a0 Z = true) (b : Addr) (kb : ClassId) (ch : Int32) (n : Int32) (bs : List Int32) (j : Nat) (h0 : Heap) (O : Ext Z.heap h0) (Vb : Arv Z h0 b kb .byte n (bs.map Value.int) (.int 0)) (hn : Int32.ofNat bs.length = n) (hl : bs.length ≤ 4000) (hj : j ≤ bs.length) (hne : ∀ i, i < j → ¬ bs.getD i 0 = OwnKit.i2b ch) (heq : j < bs.length → bs.getD j 0 = OwnKit.i2b ch) :
    CN [] l Z (⟨"java/lang/StringLatin1", "indexOfChar", "([BIII)I"⟩ : MethodName) jdk_43_method_23_code 6 (Option.some Jvm.ClassFile.FieldType.int) ({ frames := 0, cells := 0, slots := 0, locals := 0 } : Room) #[(.ref b), (.int ch), (.int (0 : Int32)), (.int n)] h0 [] (QIxC Z b kb ch n bs j h0) := by
  refine CN.of_walk (plainFor_of_name pn2) O (fun _ q => nomatch q) ?_
  intro p e s m below meth c T0 W0 hx hby hml hoZ hnm hret hlk
  have H0 := W0.here; have hz0 := W0.zsize
  refine Goes.cast (ef4 m b ch (0 : Int32) n) ?_
  refine G.iloadN H0 hx 1 (hb hby d20_0) rfl rfl ?_
  refine G.i2b H0 hx 2 (hb hby d20_1) rfl ?_
  refine G.istoreX H0 hx 4 #[.val (.ref b), .val (.int ch), .val (.int (0 : Int32)), .val (.int n), .val (.int (OwnKit.i2b ch)), .unset] (hb hby d20_2) rfl rfl ?_
  refine G.iloadN H0 hx 5 (hb hby d20_4) rfl rfl ?_
  refine G.istoreX H0 hx 7 #[.val (.ref b), .val (.int ch), .val (.int (0 : Int32)), .val (.int n), .val (.int (OwnKit.i2b ch)), .val (.int (0 : Int32))] (hb hby d20_5) rfl rfl ?_
  have LP : ∀ (k i : Nat), i + k = j → Goes p e below (PostN s Z h0 [] (QIxC Z b kb ch n bs j h0) ({ frames := 0, cells := 0, slots := 0, locals := 0 } : Room).cells ({ frames := 0, cells := 0, slots := 0, locals := 0 } : Room).slots) (T0.setTop (mkF m 7 #[.val (.ref b), .val (.int ch), .val (.int (0 : Int32)), .val (.int n), .val (.int (OwnKit.i2b ch)), .val (.int (Int32.ofNat i))] [])) := by
    intro k; induction k with
    | zero =>
      intro i hi; have hij : i = j := by omega
      by_cases hlt : j < bs.length
      ·
        refine G.iload H0 hx 9 (hb hby d20_7) rfl rfl ?_
        refine G.iloadN H0 hx 10 (hb hby d20_9) rfl rfl ?_
        refine G.icmpN H0 hx 13 (hb hby d20_10) (tlt (hn ▸ ofn_lt hl (by omega))).2.1 rfl ?_
        refine G.aloadN H0 hx 14 (hb hby d20_13) rfl rfl rfl ?_
        refine G.iload H0 hx 16 (hb hby d20_14) rfl rfl ?_
        refine Wk.baload W0 hx Vb ⟨ofn_n0 (by omega), (hn ▸ ofn_lt hl (by omega))⟩ (.int (bs.getD i 0)) (map_get hl (by omega)) 17 (hb hby d20_16) rfl ?_
        refine G.iload H0 hx 19 (hb hby d20_17) rfl rfl ?_
        refine G.icmpN H0 hx 22 (hb hby d20_19) (teq (by rw [hij]; exact heq hlt)).2 rfl ?_
        refine G.iload H0 hx 24 (hb hby d20_22) rfl rfl ?_
        exact Wk.retI W0 hx hret hlk (hb hby d20_24) (by decide) (by decide) ⟨by rw [if_pos hlt, hij], rfl⟩
      ·
        refine G.iload H0 hx 9 (hb hby d20_7) rfl rfl ?_
        refine G.iloadN H0 hx 10 (hb hby d20_9) rfl rfl ?_
        refine G.icmpY H0 hx 31 (hb hby d20_10) (flt (hn ▸ ofn_nlt (by omega) (by omega))).2.1 (by decide) rfl ?_
        refine G.iconst H0 hx 32 (-1 : Int32) (hb hby d20_31) rfl rfl ?_
        exact Wk.retI W0 hx hret hlk (hb hby d20_32) (by decide) (by decide) ⟨by rw [if_neg hlt], rfl⟩
    | succ k ih =>
      intro i hi
      refine G.iload H0 hx 9 (hb hby d20_7) rfl rfl ?_
      refine G.iloadN H0 hx 10 (hb hby d20_9) rfl rfl ?_
      refine G.icmpN H0 hx 13 (hb hby d20_10) (tlt (hn ▸ ofn_lt hl (by omega))).2.1 rfl ?_
      refine G.aloadN H0 hx 14 (hb hby d20_13) rfl rfl rfl ?_
      refine G.iload H0 hx 16 (hb hby d20_14) rfl rfl ?_
      refine Wk.baload W0 hx Vb ⟨ofn_n0 (by omega), (hn ▸ ofn_lt hl (by omega))⟩ (.int (bs.getD i 0)) (map_get hl (by omega)) 17 (hb hby d20_16) rfl ?_
      refine G.iload H0 hx 19 (hb hby d20_17) rfl rfl ?_
      refine G.icmpY H0 hx 25 (hb hby d20_19) (feq (hne i (by omega))).2 (by decide) rfl ?_
      refine G.iincX H0 hx 28 #[.val (.ref b), .val (.int ch), .val (.int (0 : Int32)), .val (.int n), .val (.int (OwnKit.i2b ch)), .val (.int ((Int32.ofNat i) + (1 : Int32)))] (hb hby d20_25) rfl (1 : Int32) rfl rfl rfl ?_
      refine G.goto H0 hx 7 (hb hby d20_28) (by decide) rfl ?_
      rw [ofn_succ]
      exact ih (i + 1) (by omega)
  exact LP j 0 (by omega)
def QIxL (Z : State) (b : Addr) (kb : ClassId) (ch : Int32) (n : Int32) (bs : List Int32) (j : Nat) (h0 : Heap) : Option Value → Heap → Prop := fun v h => v = some (.int (if j < bs.length then Int32.ofNat j else -1)) ∧ h = h0
set_option maxRecDepth 65536 in
set_option maxHeartbeats 40000000 in
theorem rmIxL (l : Launch) (Z : State) (a0 : Array Value) (hw : ∀ d ∈ tables_1, d.before a0 Z = true) (b : Addr) (kb : ClassId) (ch : Int32) (n : Int32) (bs : List Int32) (j : Nat) (h0 : Heap) (O : Ext Z.heap h0) (hc8 : C8 ch) (Vb : Arv Z h0 b kb .byte n (bs.map Value.int) (.int 0)) (hn : Int32.ofNat bs.length = n) (hl : bs.length ≤ 4000) (hj : j ≤ bs.length) (hne : ∀ i, i < j → ¬ bs.getD i 0 = OwnKit.i2b ch) (heq : j < bs.length → bs.getD j 0 = OwnKit.i2b ch) :
    CN [] l Z (⟨"java/lang/StringLatin1", "indexOf", "([BIII)I"⟩ : MethodName) jdk_43_method_22_code 4 (Option.some Jvm.ClassFile.FieldType.int) ({ frames := 1, cells := 0, slots := 0, locals := 20 } : Room) #[(.ref b), (.int ch), (.int (0 : Int32)), (.int n)] h0 [] (QIxL Z b kb ch n bs j h0) := by
  refine CN.of_walk (plainFor_of_name pn2) O (fun _ q => nomatch q) ?_
  intro p e s m below meth c T0 W0 hx hby hml hoZ hnm hret hlk
  have H0 := W0.here; have hz0 := W0.zsize
  refine Goes.cast (ef5 m b ch (0 : Int32) n) ?_
  refine G.iloadN H0 hx 1 (hb hby d16_0) rfl rfl ?_
  refine Wk.callS W0 hx hoZ (y := (⟨"java/lang/StringLatin1", "canEncode", "(I)Z"⟩ : MethodName)) (wd hw 74 rfl) (wd hw 75 rfl) (wd hw 72 rfl) (wd hw 76 rfl) (by decide) (Wd := 0) (CN.back (rmCanI l Z a0 hw ch h0 W0.old hc8) W0.warm (wd hw 76 rfl) (wd hw 72 rfl) (by decide) (by decide)) (by rw [hml]; rfl) [(.int ch)] [] (lenOf pd1 rfl) rfl rfl (Nat.le_of_eq rfl) 4 (hb hby d16_1) rfl (by decide) (by decide) (fun _ q => nomatch q) ?_
  intro v101 T101 h101 W101 K101 Ch101 Q101
  have H101 := W101.here; have z101 := K101.1
  obtain ⟨rfl, eh101⟩ := Q101
  show Goes p e below (PostN s Z h0 [] (QIxL Z b kb ch n bs j h0) ({ frames := 1, cells := 0, slots := 0, locals := 20 } : Room).cells ({ frames := 1, cells := 0, slots := 0, locals := 20 } : Room).slots) (T101.setTop (mkF m 4 #[.val (.ref b), .val (.int ch), .val (.int (0 : Int32)), .val (.int n)] [(.int (1 : Int32))]))
  refine G.ifY H101 hx 9 (hb hby d16_4) (zne (by decide)).2 (by decide) rfl ?_
  refine G.iloadN H101 hx 10 (hb hby d16_9) rfl rfl ?_
  refine G.iconst H101 hx 11 (0 : Int32) (hb hby d16_10) rfl rfl ?_
  refine Wk.callS W101 hx hoZ (y := (⟨"java/lang/Math", "max", "(II)I"⟩ : MethodName)) (wd hw 77 rfl) (wd hw 78 rfl) (wd hw 79 rfl) (wd hw 80 rfl) (by decide) (Wd := 0) (CN.back (rmmax l Z a0 hw (0 : Int32) (0 : Int32) h101 W101.old ) W101.warm (wd hw 80 rfl) (wd hw 79 rfl) (by decide) (by decide)) (by rw [hml]; rfl) [(.int (0 : Int32)), (.int (0 : Int32))] [] (lenOf pd2 rfl) rfl rfl (Nat.le_of_eq rfl) 14 (hb hby d16_11) rfl (by decide) (by decide) (fun _ q => nomatch q) ?_
  intro v102 T102 h102 W102 K102 Ch102 Q102
  have H102 := W102.here; have z102 := K102.1
  obtain ⟨rfl, eh102⟩ := Q102
  show Goes p e below (PostN s Z h0 [] (QIxL Z b kb ch n bs j h0) ({ frames := 1, cells := 0, slots := 0, locals := 20 } : Room).cells ({ frames := 1, cells := 0, slots := 0, locals := 20 } : Room).slots) (T102.setTop (mkF m 14 #[.val (.ref b), .val (.int ch), .val (.int (0 : Int32)), .val (.int n)] [(.int (f_max (0 : Int32) (0 : Int32)))]))
  rw [show f_max (0 : Int32) (0 : Int32) = 0 from by decide]
  show Goes p e below (PostN s Z h0 [] (QIxL Z b kb ch n bs j h0) ({ frames := 1, cells := 0, slots := 0, locals := 20 } : Room).cells ({ frames := 1, cells := 0, slots := 0, locals := 20 } : Room).slots) (T102.setTop (mkF m 14 #[.val (.ref b), .val (.int ch), .val (.int (0 : Int32)), .val (.int n)] [(.int (0 : Int32))]))
  refine G.istoreNX H102 hx 15 #[.val (.ref b), .val (.int ch), .val (.int (0 : Int32)), .val (.int n)] (hb hby d16_14) rfl rfl ?_
  refine G.iloadN H102 hx 16 (hb hby d16_15) rfl rfl ?_
  refine G.aloadN H102 hx 17 (hb hby d16_16) rfl rfl rfl ?_
  refine Wk.arraylength W102 hx ((Vb.keep K101 nin0).keep K102 nin0) 18 (hb hby d16_17) rfl ?_
  refine Wk.callS W102 hx hoZ (y := (⟨"java/lang/Math", "min", "(II)I"⟩ : MethodName)) (wd hw 81 rfl) (wd hw 82 rfl) (wd hw 79 rfl) (wd hw 83 rfl) (by decide) (Wd := 0) (CN.back (rmmin l Z a0 hw n n h102 W102.old ) W102.warm (wd hw 83 rfl) (wd hw 79 rfl) (by decide) (by decide)) (by rw [hml]; rfl) [(.int n), (.int n)] [] (lenOf pd2 rfl) rfl rfl (Nat.le_of_eq rfl) 21 (hb hby d16_18) rfl (by decide) (by decide) (fun _ q => nomatch q) ?_
  intro v103 T103 h103 W103 K103 Ch103 Q103
  have H103 := W103.here; have z103 := K103.1
  obtain ⟨rfl, eh103⟩ := Q103
  show Goes p e below (PostN s Z h0 [] (QIxL Z b kb ch n bs j h0) ({ frames := 1, cells := 0, slots := 0, locals := 20 } : Room).cells ({ frames := 1, cells := 0, slots := 0, locals := 20 } : Room).slots) (T103.setTop (mkF m 21 #[.val (.ref b), .val (.int ch), .val (.int (0 : Int32)), .val (.int n)] [(.int (f_min n n))]))
  rw [f_min_self]
  show Goes p e below (PostN s Z h0 [] (QIxL Z b kb ch n bs j h0) ({ frames := 1, cells := 0, slots := 0, locals := 20 } : Room).cells ({ frames := 1, cells := 0, slots := 0, locals := 20 } : Room).slots) (T103.setTop (mkF m 21 #[.val (.ref b), .val (.int ch), .val (.int (0 : Int32)), .val (.int n)] [(.int n)]))
  refine G.istoreNX H103 hx 22 #[.val (.ref b), .val (.int ch), .val (.int (0 : Int32)), .val (.int n)] (hb hby d16_21) rfl rfl ?_
  refine G.iloadN H103 hx 23 (hb hby d16_22) rfl rfl ?_
  refine G.iloadN H103 hx 24 (hb hby d16_23) rfl rfl ?_
  by_cases c24_104 : (0 : Int32) < n
  ·
    refine G.icmpY H103 hx 29 (hb hby d16_24) (tlt c24_104).1 (by decide) rfl ?_
    refine G.aloadN H103 hx 30 (hb hby d16_29) rfl rfl rfl ?_
    refine G.iloadN H103 hx 31 (hb hby d16_30) rfl rfl ?_
    refine G.iloadN H103 hx 32 (hb hby d16_31) rfl rfl ?_
    refine G.iloadN H103 hx 33 (hb hby d16_32) rfl rfl ?_
    refine Wk.callS W103 hx hoZ (y := (⟨"java/lang/StringLatin1", "indexOfChar", "([BIII)I"⟩ : MethodName)) (wd hw 84 rfl) (wd hw 85 rfl) (wd hw 72 rfl) (wd hw 86 rfl) (by decide) (Wd := 0) (CN.back (rmIxC l Z a0 hw b kb ch n bs j h103 W103.old (((Vb.keep K101 nin0).keep K102 nin0).keep K103 nin0) hn hl hj hne heq) W103.warm (wd hw 86 rfl) (wd hw 72 rfl) (by decide) (by decide)) (by rw [hml]; rfl) [(.ref b), (.int ch), (.int (0 : Int32)), (.int n)] [] (lenOf pd3 rfl) rfl rfl (Nat.le_of_eq rfl) 36 (hb hby d16_33) rfl (by decide) (by decide) (fun _ q => nomatch q) ?_
    intro v105 T105 h105 W105 K105 Ch105 Q105
    have H105 := W105.here; have z105 := K105.1
    obtain ⟨rfl, eh105⟩ := Q105
    show Goes p e below (PostN s Z h0 [] (QIxL Z b kb ch n bs j h0) ({ frames := 1, cells := 0, slots := 0, locals := 20 } : Room).cells ({ frames := 1, cells := 0, slots := 0, locals := 20 } : Room).slots) (T105.setTop (mkF m 36 #[.val (.ref b), .val (.int ch), .val (.int (0 : Int32)), .val (.int n)] [(.int (if j < bs.length then Int32.ofNat j else -1))]))
    exact Wk.retI W105 hx hret hlk (hb hby d16_36) (by decide) (by decide) ⟨rfl, (by rw [eh105, eh103, eh102, eh101])⟩
  ·
    refine G.icmpN H103 hx 27 (hb hby d16_24) (flt c24_104).1 rfl ?_
    refine G.iconst H103 hx 28 (-1 : Int32) (hb hby d16_27) rfl rfl ?_
    exact Wk.retI W103 hx hret hlk (hb hby d16_28) (by decide) (by decide) ⟨by rw [if_neg (by have q := ofn_pos hl (hn ▸ c24_104); omega)], (by rw [eh103, eh102, eh101])⟩
def QIxI (Z : State) (cz : Int32) (a : Addr) (ch : Int32) (cs : List Int32) (j : Nat) (h0 : Heap) : Option Value → Heap → Prop := fun v h => v = some (.int (if j < cs.length then Int32.ofNat j else -1)) ∧ h = h0
set_option maxRecDepth 65536 in
set_option maxHeartbeats 40000000 in
theorem rmIxI (l : Launch) (Z : State) (a0 : Array Value) (hw : ∀ d ∈ tables_1, d.before a0 Z = true) (cz : Int32) (a : Addr) (ch : Int32) (cs : List Int32) (j : Nat) (h0 : Heap) (O : Ext Z.heap h0) (hCS : Sta Z Z.heap "java/lang/String" "COMPACT_STRINGS" "Z" (.int cz)) (hcz : ¬ cz = 0) (Sa : SV Z h0 a cs) (h8 : ∀ c ∈ cs, C8 c) (hc8 : C8 ch) (hj : j ≤ cs.length) (hne : ∀ i, i < j → ¬ cs.getD i 0 = ch) (heq : j < cs.length → cs.getD j 0 = ch) :
    CN [] l Z (⟨"java/lang/String", "indexOf", "(II)I"⟩ : MethodName) jdk_42_method_80_code 3 (Option.some Jvm.ClassFile.FieldType.int) ({ frames := 2, cells := 0, slots := 0, locals := 50 } : Room) #[(.ref a), (.int ch), (.int (0 : Int32))] h0 [] (QIxI Z cz a ch cs j h0) := by
  refine CN.of_walk (plainFor_of_name pn1) O (fun _ q => nomatch q) ?_
  intro p e s m below meth c T0 W0 hx hby hml hoZ hnm hret hlk
  have H0 := W0.here; have hz0 := W0.zsize
  refine Goes.cast (ef6 m a ch (0 : Int32)) ?_
  obtain ⟨b, kb, Fc, Fv, Vb, ln⟩ := SV.lat Sa h8
  have lb := ltN Vb.lt; have Ea := Sa.exa; have la := ltN Sa.lt
  refine G.aloadN H0 hx 1 (hb hby d12_0) rfl rfl rfl ?_
  refine Wk.virtual W0 hx hoZ (y := (⟨"java/lang/String", "isLatin1", "()Z"⟩ : MethodName)) (z := (⟨"java/lang/String", "isLatin1", "()Z"⟩ : MethodName)) (wd hw 55 rfl) (wd hw 56 rfl) (wd hw 58 rfl) (wd hw 57 rfl) (W0.nf (wd hw 58 rfl)) (by decide) (Wd := 0) (CN.back (rmLat l Z a0 hw cz a h0 W0.old hCS hcz Ea Fc) W0.warm (wd hw 59 rfl) (wd hw 14 rfl) (by decide) (by decide)) Ea (by rw [hml]; rfl) [] [] (lenOf pd4 rfl) rfl rfl (Nat.le_of_eq rfl) 4 (hb hby d12_1) rfl (by decide) (by decide) (fun _ q => nomatch q) ?_
  intro v101 T101 h101 W101 K101 Ch101 Q101
  have H101 := W101.here; have z101 := K101.1
  obtain ⟨rfl, eh101⟩ := Q101
  show Goes p e below (PostN s Z h0 [] (QIxI Z cz a ch cs j h0) ({ frames := 2, cells := 0, slots := 0, locals := 50 } : Room).cells ({ frames := 2, cells := 0, slots := 0, locals := 50 } : Room).slots) (T101.setTop (mkF m 4 #[.val (.ref a), .val (.int ch), .val (.int (0 : Int32))] [(.int (1 : Int32))]))
  refine G.ifN H101 hx 7 (hb hby d12_4) (zne (by decide)).1 rfl ?_
  refine G.aloadN H101 hx 8 (hb hby d12_7) rfl rfl rfl ?_
  refine Wk.getF W101 hx hoZ (host := "") (Or.inl (wd hw 39 rfl)) Via.refl (Fv.keep K101 nin0) 11 (hb hby d12_8) rfl ?_
  intro T102 W102; have H102 := W102.here
  refine G.iloadN H102 hx 12 (hb hby d12_11) rfl rfl ?_
  refine G.iloadN H102 hx 13 (hb hby d12_12) rfl rfl ?_
  refine G.aloadN H102 hx 14 (hb hby d12_13) rfl rfl rfl ?_
  refine Wk.virtual W102 hx hoZ (y := (⟨"java/lang/String", "length", "()I"⟩ : MethodName)) (z := (⟨"java/lang/String", "length", "()I"⟩ : MethodName)) (wd hw 60 rfl) (wd hw 61 rfl) (wd hw 63 rfl) (wd hw 62 rfl) (W102.nf (wd hw 63 rfl)) (by decide) (Wd := 3) (lenS W102.warm (wsLen hw) (wd hw 13 rfl) W102.old (Sa.keepX K101 ala0) hCS hcz (by decide) (by decide)) (Ea.keep K101) (by rw [hml]; rfl) [] [(.int (0 : Int32)), (.int ch), (.ref b)] (lenOf pd5 rfl) rfl rfl (Nat.le_of_eq rfl) 17 (hb hby d12_14) rfl (by decide) (by decide) (fun _ q => nomatch q) ?_
  intro v103 T103 h103 W103 K103 Ch103 Q103
  have H103 := W103.here; have z103 := K103.1
  obtain ⟨rfl, eh103⟩ := Q103
  show Goes p e below (PostN s Z h0 [] (QIxI Z cz a ch cs j h0) ({ frames := 2, cells := 0, slots := 0, locals := 50 } : Room).cells ({ frames := 2, cells := 0, slots := 0, locals := 50 } : Room).slots) (T103.setTop (mkF m 17 #[.val (.ref a), .val (.int ch), .val (.int (0 : Int32))] [(.int (Int32.ofNat cs.length)), (.int (0 : Int32)), (.int ch), (.ref b)]))
  refine Wk.callS W103 hx hoZ (y := (⟨"java/lang/StringLatin1", "indexOf", "([BIII)I"⟩ : MethodName)) (wd hw 70 rfl) (wd hw 71 rfl) (wd hw 72 rfl) (wd hw 73 rfl) (by decide) (Wd := 0) (CN.back (rmIxL l Z a0 hw b kb ch (Int32.ofNat cs.length) (cs.map OwnKit.i2b) j h103 W103.old hc8 ((Vb.keep K101 nin0).keep K103 nin0) (by rw [List.length_map]) (by rw [List.length_map]; exact ln) (by rw [List.length_map]; exact hj) (fun i hi q => hne i hi (i2b_inj (c8_getD h8 i) hc8 ((getD_map_i2b cs i).symm.trans q))) (fun q => by rw [getD_map_i2b, heq (by rw [List.length_map] at q; exact q)])) W103.warm (wd hw 73 rfl) (wd hw 72 rfl) (by decide) (by decide)) (by rw [hml]; rfl) [(.ref b), (.int ch), (.int (0 : Int32)), (.int (Int32.ofNat cs.length))] [] (lenOf pd3 rfl) rfl rfl (Nat.le_of_eq rfl) 20 (hb hby d12_17) rfl (by decide) (by decide) (fun _ q => nomatch q) ?_
  intro v104 T104 h104 W104 K104 Ch104 Q104
  have H104 := W104.here; have z104 := K104.1
  obtain ⟨rfl, eh104⟩ := Q104
  show Goes p e below (PostN s Z h0 [] (QIxI Z cz a ch cs j h0) ({ frames := 2, cells := 0, slots := 0, locals := 50 } : Room).cells ({ frames := 2, cells := 0, slots := 0, locals := 50 } : Room).slots) (T104.setTop (mkF m 20 #[.val (.ref a), .val (.int ch), .val (.int (0 : Int32))] [(.int (if j < (cs.map OwnKit.i2b).length then Int32.ofNat j else -1))]))
  refine G.goto H104 hx 36 (hb hby d12_20) (by decide) rfl ?_
  exact Wk.retI W104 hx hret hlk (hb hby d12_36) (by decide) (by decide) ⟨by rw [List.length_map], (by rw [eh104, eh103, eh101])⟩
def QIx0 (Z : State) (cz : Int32) (a : Addr) (ch : Int32) (cs : List Int32) (j : Nat) (h0 : Heap) : Option Value → Heap → Prop := fun v h => v = some (.int (if j < cs.length then Int32.ofNat j else -1)) ∧ h = h0
set_option maxRecDepth 65536 in
set_option maxHeartbeats 40000000 in
theorem rmIx0 (l : Launch) (Z : State) (a0 : Array Value) (hw : ∀ d ∈ tables_1, d.before a0 Z = true) (cz : Int32) (a : Addr) (ch : Int32) (cs : List Int32) (j : Nat) (h0 : Heap) (O : Ext Z.heap h0) (hCS : Sta Z Z.heap "java/lang/String" "COMPACT_STRINGS" "Z" (.int cz)) (hcz : ¬ cz = 0) (Sa : SV Z h0 a cs) (h8 : ∀ c ∈ cs, C8 c) (hc8 : C8 ch) (hj : j ≤ cs.length) (hne : ∀ i, i < j → ¬ cs.getD i 0 = ch) (heq : j < cs.length → cs.getD j 0 = ch) :
    CN [] l Z (⟨"java/lang/String", "indexOf", "(I)I"⟩ : MethodName) jdk_42_method_79_code 2 (Option.some Jvm.ClassFile.FieldType.int) ({ frames := 3, cells := 0, slots := 0, locals := 70 } : Room) #[(.ref a), (.int ch)] h0 [] (QIx0 Z cz a ch cs j h0) := by
  refine CN.of_walk (plainFor_of_name pn1) O (fun _ q => nomatch q) ?_
  intro p e s m below meth c T0 W0 hx hby hml hoZ hnm hret hlk
  have H0 := W0.here; have hz0 := W0.zsize
  refine Goes.cast (ef7 m a ch) ?_
  refine G.aloadN H0 hx 1 (hb hby d11_0) rfl rfl rfl ?_
  refine G.iloadN H0 hx 2 (hb hby d11_1) rfl rfl ?_
  refine G.iconst H0 hx 3 (0 : Int32) (hb hby d11_2) rfl rfl ?_
  refine Wk.virtual W0 hx hoZ (y := (⟨"java/lang/String", "indexOf", "(II)I"⟩ : MethodName)) (z := (⟨"java/lang/String", "indexOf", "(II)I"⟩ : MethodName)) (wd hw 50 rfl) (wd hw 51 rfl) (wd hw 53 rfl) (wd hw 52 rfl) (W0.nf (wd hw 53 rfl)) (by decide) (Wd := 0) (CN.back (rmIxI l Z a0 hw cz a ch cs j h0 W0.old hCS hcz Sa h8 hc8 hj hne heq) W0.warm (wd hw 54 rfl) (wd hw 14 rfl) (by decide) (by decide)) Sa.exa (by rw [hml]; rfl) [(.int ch), (.int (0 : Int32))] [] (lenOf pd2 rfl) rfl rfl (Nat.le_of_eq rfl) 6 (hb hby d11_3) rfl (by decide) (by decide) (fun _ q => nomatch q) ?_
  intro v101 T101 h101 W101 K101 Ch101 Q101
  have H101 := W101.here; have z101 := K101.1
  obtain ⟨rfl, eh101⟩ := Q101
  show Goes p e below (PostN s Z h0 [] (QIx0 Z cz a ch cs j h0) ({ frames := 3, cells := 0, slots := 0, locals := 70 } : Room).cells ({ frames := 3, cells := 0, slots := 0, locals := 70 } : Room).slots) (T101.setTop (mkF m 6 #[.val (.ref a), .val (.int ch)] [(.int (if j < cs.length then Int32.ofNat j else -1))]))
  exact Wk.retI W101 hx hret hlk (hb hby d11_6) (by decide) (by decide) ⟨rfl, (by rw [eh101])⟩
def QCFT (Z : State) (fm : Value) (f : Int32) (t : Int32) (n : Int32) (h0 : Heap) : Option Value → Heap → Prop := fun v h => v = some (.int f) ∧ h = h0
set_option maxRecDepth 65536 in
set_option maxHeartbeats 40000000 in
theorem rmCFT (l : Launch) (Z : State) (a0 : Array Value) (hw : ∀ d ∈ tables_1, d.before a0 Z = true) (fm : Value) (f : Int32) (t : Int32) (n : Int32) (h0 : Heap) (O : Ext Z.heap h0) (hfm : fm.isRef = true) (hf0 : ¬ f < 0) (htf : ¬ t < f) (hnt : ¬ n < t) :
    CN [] l Z (⟨"jdk/internal/util/Preconditions", "checkFromToIndex", "(IIILjava/util/function/BiFunction;)I"⟩ : MethodName) jdk_41_method_12_code 4 (Option.some Jvm.ClassFile.FieldType.int) ({ frames := 0, cells := 0, slots := 0, locals := 0 } : Room) #[(.int f), (.int t), (.int n), fm] h0 [] (QCFT Z fm f t n h0) := by
  refine CN.of_walk (plainFor_of_name pn3) O (fun _ q => nomatch q) ?_
  intro p e s m below meth c T0 W0 hx hby hml hoZ hnm hret hlk
  have H0 := W0.here; have hz0 := W0.zsize
  refine Goes.cast (ef8 m f t n fm (cat_ref hfm)) ?_
  refine G.iloadN H0 hx 1 (hb hby d23_0) rfl rfl ?_
  refine G.ifN H0 hx 4 (hb hby d23_1) (znl hf0).1 rfl ?_
  refine G.iloadN H0 hx 5 (hb hby d23_4) rfl rfl ?_
  refine G.iloadN H0 hx 6 (hb hby d23_5) rfl rfl ?_
  refine G.icmpN H0 hx 9 (hb hby d23_6) (flt htf).2.2.1 rfl ?_
  refine G.iloadN H0 hx 10 (hb hby d23_9) rfl rfl ?_
  refine G.iloadN H0 hx 11 (hb hby d23_10) rfl rfl ?_
  refine G.icmpY H0 hx 22 (hb hby d23_11) (flt hnt).2.2.2 (by decide) rfl ?_
  refine G.iloadN H0 hx 23 (hb hby d23_22) rfl rfl ?_
  exact Wk.retI W0 hx hret hlk (hb hby d23_23) (by decide) (by decide) ⟨rfl, rfl⟩
def QCBB (Z : State) (fm : Value) (f : Int32) (t : Int32) (n : Int32) (h0 : Heap) : Option Value → Heap → Prop := fun v h => v = none ∧ h = h0
set_option maxRecDepth 65536 in
set_option maxHeartbeats 40000000 in
theorem rmCBB (l : Launch) (Z : State) (a0 : Array Value) (hw : ∀ d ∈ tables_1, d.before a0 Z = true) (fm : Value) (f : Int32) (t : Int32) (n : Int32) (h0 : Heap) (O : Ext Z.heap h0) (hFM : Sta Z Z.heap "jdk/internal/util/Preconditions" "SIOOBE_FORMATTER" "Ljava/util/function/BiFunction;" fm) (hfm : fm.isRef = true) (hf0 : ¬ f < 0) (htf : ¬ t < f) (hnt : ¬ n < t) :
    CN [] l Z (⟨"java/lang/String", "checkBoundsBeginEnd", "(III)V"⟩ : MethodName) jdk_42_method_158_code 3 (Option.none : Option Jvm.ClassFile.FieldType) ({ frames := 1, cells := 0, slots := 0, locals := 20 } : Room) #[(.int f), (.int t), (.int n)] h0 [] (QCBB Z fm f t n h0) := by
  refine CN.of_walk (plainFor_of_name pn1) O (fun _ q => nomatch q) ?_
  intro p e s m below meth c T0 W0 hx hby hml hoZ hnm hret hlk
  have H0 := W0.here; have hz0 := W0.zsize
  refine Goes.cast (ef9 m f t n) ?_
  refine G.iloadN H0 hx 1 (hb hby d22_0) rfl rfl ?_
  refine G.iloadN H0 hx 2 (hb hby d22_1) rfl rfl ?_
  refine G.iloadN H0 hx 3 (hb hby d22_2) rfl rfl ?_
  refine Wk.getS W0 hx hoZ (wd hw 95 rfl) Via.refl (hFM.ext W0.old) 6 (hb hby d22_3) rfl ?_
  intro T101 W101; have H101 := W101.here
  refine Wk.callS W101 hx hoZ (y := (⟨"jdk/internal/util/Preconditions", "checkFromToIndex", "(IIILjava/util/function/BiFunction;)I"⟩ : MethodName)) (wd hw 97 rfl) (wd hw 98 rfl) (wd hw 96 rfl) (wd hw 99 rfl) (by decide) (Wd := 0) (CN.back (rmCFT l Z a0 hw fm f t n h0 W101.old hfm hf0 htf hnt) W101.warm (wd hw 99 rfl) (wd hw 96 rfl) (by decide) (by decide)) (by rw [hml]; rfl) [(.int f), (.int t), (.int n), fm] [] (lenOf pd6 rfl) rfl rfl (Nat.le_of_eq rfl) 9 (hb hby d22_6) rfl (by decide) (by decide) (fun _ q => nomatch q) ?_
  intro v102 T102 h102 W102 K102 Ch102 Q102
  have H102 := W102.here; have z102 := K102.1
  obtain ⟨rfl, eh102⟩ := Q102
  show Goes p e below (PostN s Z h0 [] (QCBB Z fm f t n h0) ({ frames := 1, cells := 0, slots := 0, locals := 20 } : Room).cells ({ frames := 1, cells := 0, slots := 0, locals := 20 } : Room).slots) (T102.setTop (mkF m 9 #[.val (.int f), .val (.int t), .val (.int n)] [(.int f)]))
  refine G.pop H102 hx 10 (hb hby d22_9) rfl rfl ?_
  exact Wk.retV W102 hx hret hlk (hb hby d22_10) (by decide) (by decide) ⟨rfl, (by rw [eh102])⟩
def QCkL (Z : State) (f : Int32) (t : Int32) (h0 : Heap) : Option Value → Heap → Prop := fun v h => v = none ∧ h = h0
set_option maxRecDepth 65536 in
set_option maxHeartbeats 40000000 in
theorem rmCkL (l : Launch) (Z : State) (a0 : Array Value) (hw : ∀ d ∈ tables_1, d.before a0 Z = true) (f : Int32) (t : Int32) (h0 : Heap) (O : Ext Z.heap h0) (htf : ¬ t < f) :
    CN [] l Z (⟨"java/util/Arrays", "checkLength", "(II)V"⟩ : MethodName) jdk_65_method_131_code 2 (Option.none : Option Jvm.ClassFile.FieldType) ({ frames := 0, cells := 0, slots := 0, locals := 0 } : Room) #[(.int f), (.int t)] h0 [] (QCkL Z f t h0) := by
  refine CN.of_walk (plainFor_of_name pn4) O (fun _ q => nomatch q) ?_
  intro p e s m below meth c T0 W0 hx hby hml hoZ hnm hret hlk
  have H0 := W0.here; have hz0 := W0.zsize
  refine Goes.cast (ef3 m f t) ?_
  refine G.iloadN H0 hx 1 (hb hby d27_0) rfl rfl ?_
  refine G.iloadN H0 hx 2 (hb hby d27_1) rfl rfl ?_
  refine G.icmpY H0 hx 37 (hb hby d27_2) (flt htf).2.1 (by decide) rfl ?_
  exact Wk.retV W0 hx hret hlk (hb hby d27_37) (by decide) (by decide) ⟨rfl, rfl⟩
def QCRB (Z : State) (b : Addr) (kb : ClassId) (f : Int32) (t : Int32) (n : Int32) (vs : List Value) (us : List Value) (h0 : Heap) : Option Value → Heap → Prop := fun v h => ∃ (r : Addr) (k : ClassId), v = some (.ref r) ∧ h0.size ≤ r ∧ Arv Z h r k .byte (t - f) us (.int 0)
set_option maxRecDepth 65536 in
set_option maxHeartbeats 40000000 in
theorem rmCRB (l : Launch) (Z : State) (a0 : Array Value) (hw : ∀ d ∈ tables_1, d.before a0 Z = true) (b : Addr) (kb : ClassId) (f : Int32) (t : Int32) (n : Int32) (vs : List Value) (us : List Value) (h0 : Heap) (O : Ext Z.heap h0) (Vb : Arv Z h0 b kb .byte n vs (.int 0)) (hf0 : ¬ f < 0) (htf : ¬ t < f) (hn0 : ¬ (t - f) < 0) (hcap : (t - f).toNatClampNeg ≤ 8) (hmin : f_min (n - f) (t - f) = t - f) (hq4 : f.toNatClampNeg + (t - f).toNatClampNeg ≤ n.toNatClampNeg) (hus : us = (List.range (t - f).toNatClampNeg).map fun i => vs.getD (f.toNatClampNeg + i) (.int 0)) :
    CN [] l Z (⟨"java/util/Arrays", "copyOfRangeByte", "([BII)[B"⟩ : MethodName) jdk_65_method_133_code 5 (Option.some (Jvm.ClassFile.FieldType.array Jvm.ClassFile.FieldType.byte)) ({ frames := 1, cells := 1, slots := 8, locals := 60 } : Room) #[(.ref b), (.int f), (.int t)] h0 [] (QCRB Z b kb f t n vs us h0) := by
  refine CN.of_walk (plainFor_of_name pn4) O (fun _ q => nomatch q) ?_
  intro p e s m below meth c T0 W0 hx hby hml hoZ hnm hret hlk
  have H0 := W0.here; have hz0 := W0.zsize
  refine Goes.cast (ef10 m b f t) ?_
  have lb := ltN Vb.lt
  refine G.iloadN H0 hx 1 (hb hby d26_0) rfl rfl ?_
  refine G.iloadN H0 hx 2 (hb hby d26_1) rfl rfl ?_
  refine Wk.callS W0 hx hoZ (y := (⟨"java/util/Arrays", "checkLength", "(II)V"⟩ : MethodName)) (wd hw 111 rfl) (wd hw 112 rfl) (wd hw 106 rfl) (wd hw 113 rfl) (by decide) (Wd := 0) (CN.back (rmCkL l Z a0 hw f t h0 W0.old htf) W0.warm (wd hw 113 rfl) (wd hw 106 rfl) (by decide) (by decide)) (by rw [hml]; rfl) [(.int f), (.int t)] [] (lenOf pd7 rfl) rfl rfl (Nat.le_of_eq rfl) 5 (hb hby d26_2) rfl (by decide) (by decide) (fun _ q => nomatch q) ?_
  intro v101 T101 h101 W101 K101 Ch101 Q101
  have H101 := W101.here; have z101 := K101.1
  obtain ⟨rfl, eh101⟩ := Q101
  show Goes p e below (PostN s Z h0 [] (QCRB Z b kb f t n vs us h0) ({ frames := 1, cells := 1, slots := 8, locals := 60 } : Room).cells ({ frames := 1, cells := 1, slots := 8, locals := 60 } : Room).slots) (T101.setTop (mkF m 5 #[.val (.ref b), .val (.int f), .val (.int t), .unset, .unset] []))
  refine G.iloadN H101 hx 6 (hb hby d26_5) rfl rfl ?_
  refine G.iloadN H101 hx 7 (hb hby d26_6) rfl rfl ?_
  refine G.isub H101 hx 8 (hb hby d26_7) rfl ?_
  refine G.istoreNX H101 hx 9 #[.val (.ref b), .val (.int f), .val (.int t), .val (.int (t - f)), .unset] (hb hby d26_8) rfl rfl ?_
  refine G.iloadN H101 hx 10 (hb hby d26_9) rfl rfl ?_
  refine Wk.newP W101 hx (wd hw 30 rfl) 12 (hb hby d26_10) hn0 8 hcap rfl (by decide) (by decide) (by decide) ?_
  intro T102 h102 a102 k102 W102 E102 g102 V102 S102
  have H102 := W102.here; have z102 := E102.1; have gu102 := Nat.le_of_eq g102; have gt102 := Nat.le_of_eq g102.symm; have l102 := ltN V102.lt
  refine G.astore H102 hx 14 #[.val (.ref b), .val (.int f), .val (.int t), .val (.int (t - f)), .val (.ref a102)] (hb hby d26_12) rfl rfl rfl ?_
  refine G.aloadN H102 hx 15 (hb hby d26_14) rfl rfl rfl ?_
  refine G.iloadN H102 hx 16 (hb hby d26_15) rfl rfl ?_
  refine G.aload H102 hx 18 (hb hby d26_16) rfl rfl rfl ?_
  refine G.iconst H102 hx 19 (0 : Int32) (hb hby d26_18) rfl rfl ?_
  refine G.aloadN H102 hx 20 (hb hby d26_19) rfl rfl rfl ?_
  refine Wk.arraylength W102 hx ((Vb.keep K101 nin0).ext E102) 21 (hb hby d26_20) rfl ?_
  refine G.iloadN H102 hx 22 (hb hby d26_21) rfl rfl ?_
  refine G.isub H102 hx 23 (hb hby d26_22) rfl ?_
  refine G.iloadN H102 hx 24 (hb hby d26_23) rfl rfl ?_
  refine Wk.callS W102 hx hoZ (y := (⟨"java/lang/Math", "min", "(II)I"⟩ : MethodName)) (wd hw 114 rfl) (wd hw 82 rfl) (wd hw 79 rfl) (wd hw 83 rfl) (by decide) (Wd := 4) (CN.back (rmmin l Z a0 hw (n - f) (t - f) h102 W102.old ) W102.warm (wd hw 83 rfl) (wd hw 79 rfl) (by decide) (by decide)) (by rw [hml]; rfl) [(.int (n - f)), (.int (t - f))] [(.int (0 : Int32)), (.ref a102), (.int f), (.ref b)] (lenOf pd2 rfl) rfl rfl (Nat.le_of_eq rfl) 27 (hb hby d26_24) rfl (by decide) (by decide) (fun _ q => nomatch q) ?_
  intro v103 T103 h103 W103 K103 Ch103 Q103
  have H103 := W103.here; have z103 := K103.1
  obtain ⟨rfl, eh103⟩ := Q103
  show Goes p e below (PostN s Z h0 [] (QCRB Z b kb f t n vs us h0) ({ frames := 1, cells := 1, slots := 8, locals := 60 } : Room).cells ({ frames := 1, cells := 1, slots := 8, locals := 60 } : Room).slots) (T103.setTop (mkF m 27 #[.val (.ref b), .val (.int f), .val (.int t), .val (.int (t - f)), .val (.ref a102)] [(.int (f_min (n - f) (t - f))), (.int (0 : Int32)), (.ref a102), (.int f), (.ref b)]))
  rw [hmin]
  show Goes p e below (PostN s Z h0 [] (QCRB Z b kb f t n vs us h0) ({ frames := 1, cells := 1, slots := 8, locals := 60 } : Room).cells ({ frames := 1, cells := 1, slots := 8, locals := 60 } : Room).slots) (T103.setTop (mkF m 27 #[.val (.ref b), .val (.int f), .val (.int t), .val (.int (t - f)), .val (.ref a102)] [(.int (t - f)), (.int (0 : Int32)), (.ref a102), (.int f), (.ref b)]))
  refine Wk.arraycopy W103 hx hoZ (wd hw 115 rfl) (wd hw 118 rfl) (wd hw 116 rfl) (wd hw 117 rfl) us (((Vb.keep K101 nin0).ext E102).keep K103 nin0) (V102.keep K103 nin0) rfl hf0 (by decide) hn0 hq4 (by have e0 : (0 : Int32).toNatClampNeg = 0 := rfl; omega) hus (by have e0 : (0 : Int32).toNatClampNeg = 0 := rfl; rw [List.length_replicate]; omega) (Or.inr (by omega)) safe0 (by rw [hml]; rfl) 30 (hb hby d26_27) rfl (by decide) 0 (Nat.le_of_eq rfl) (by decide) ?_
  intro T104 h104 W104 K104 Ch104 V104; have H104 := W104.here; have z104 := K104.1
  have V104' := arv_cp V104 (by rw [hus]; simp)
  refine G.aload H104 hx 32 (hb hby d26_30) rfl rfl rfl ?_
  exact Wk.retA W104 hx (t := (.array .byte)) rfl rfl hret hlk (hb hby d26_32) (by decide) (by decide) ⟨_, _, rfl, by omega, V104'⟩
def QCR (Z : State) (b : Addr) (kb : ClassId) (f : Int32) (t : Int32) (n : Int32) (vs : List Value) (us : List Value) (h0 : Heap) : Option Value → Heap → Prop := fun v h => ∃ (r : Addr) (k : ClassId), v = some (.ref r) ∧ h0.size ≤ r ∧ Arv Z h r k .byte (t - f) us (.int 0)
set_option maxRecDepth 65536 in
set_option maxHeartbeats 40000000 in
theorem rmCR (l : Launch) (Z : State) (a0 : Array Value) (hw : ∀ d ∈ tables_1, d.before a0 Z = true) (b : Addr) (kb : ClassId) (f : Int32) (t : Int32) (n : Int32) (vs : List Value) (us : List Value) (h0 : Heap) (O : Ext Z.heap h0) (Vb : Arv Z h0 b kb .byte n vs (.int 0)) (hne0 : f = 0 → ¬ t = n) (hf0 : ¬ f < 0) (htf : ¬ t < f) (hn0 : ¬ (t - f) < 0) (hcap : (t - f).toNatClampNeg ≤ 8) (hmin : f_min (n - f) (t - f) = t - f) (hq4 : f.toNatClampNeg + (t - f).toNatClampNeg ≤ n.toNatClampNeg) (hus : us = (List.range (t - f).toNatClampNeg).map fun i => vs.getD (f.toNatClampNeg + i) (.int 0)) :
    CN [] l Z (⟨"java/util/Arrays", "copyOfRange", "([BII)[B"⟩ : MethodName) jdk_65_method_132_code 3 (Option.some (Jvm.ClassFile.FieldType.array Jvm.ClassFile.FieldType.byte)) ({ frames := 2, cells := 1, slots := 8, locals := 80 } : Room) #[(.ref b), (.int f), (.int t)] h0 [] (QCR Z b kb f t n vs us h0) := by
  refine CN.of_walk (plainFor_of_name pn4) O (fun _ q => nomatch q) ?_
  intro p e s m below meth c T0 W0 hx hby hml hoZ hnm hret hlk
  have H0 := W0.here; have hz0 := W0.zsize
  refine Goes.cast (ef6 m b f t) ?_
  have lb := ltN Vb.lt
  refine G.iloadN H0 hx 1 (hb hby d25_0) rfl rfl ?_
  by_cases c1_101 : f = 0
  ·
    refine G.ifN H0 hx 4 (hb hby d25_1) (zeq c1_101).2 rfl ?_
    refine G.iloadN H0 hx 5 (hb hby d25_4) rfl rfl ?_
    refine G.aloadN H0 hx 6 (hb hby d25_5) rfl rfl rfl ?_
    refine Wk.arraylength W0 hx Vb 7 (hb hby d25_6) rfl ?_
    refine G.icmpN H0 hx 10 (hb hby d25_7) (feq (hne0 c1_101)).1 rfl ?_
    refine G.aloadN H0 hx 11 (hb hby d25_10) rfl rfl rfl ?_
    refine G.iloadN H0 hx 12 (hb hby d25_11) rfl rfl ?_
    refine G.iloadN H0 hx 13 (hb hby d25_12) rfl rfl ?_
    refine Wk.callS W0 hx hoZ (y := (⟨"java/util/Arrays", "copyOfRangeByte", "([BII)[B"⟩ : MethodName)) (wd hw 108 rfl) (wd hw 109 rfl) (wd hw 106 rfl) (wd hw 110 rfl) (by decide) (Wd := 0) (CN.back (rmCRB l Z a0 hw b kb f t n vs us h0 W0.old Vb hf0 htf hn0 hcap hmin hq4 hus) W0.warm (wd hw 110 rfl) (wd hw 106 rfl) (by decide) (by decide)) (by rw [hml]; rfl) [(.ref b), (.int f), (.int t)] [] (lenOf pd8 rfl) rfl rfl (Nat.le_of_eq rfl) 16 (hb hby d25_13) rfl (by decide) (by decide) (fun _ q => nomatch q) ?_
    intro v102 T102 h102 W102 K102 Ch102 Q102
    have H102 := W102.here; have z102 := K102.1
    obtain ⟨r102, k102, rfl, g102, V102⟩ := Q102; have l102 := ltN V102.lt
    show Goes p e below (PostN s Z h0 [] (QCR Z b kb f t n vs us h0) ({ frames := 2, cells := 1, slots := 8, locals := 80 } : Room).cells ({ frames := 2, cells := 1, slots := 8, locals := 80 } : Room).slots) (T102.setTop (mkF m 16 #[.val (.ref b), .val (.int f), .val (.int t)] [(.ref r102)]))
    exact Wk.retA W102 hx (t := (.array .byte)) rfl rfl hret hlk (hb hby d25_16) (by decide) (by decide) ⟨_, _, rfl, by omega, V102⟩
  ·
    refine G.ifY H0 hx 10 (hb hby d25_1) (zne c1_101).2 (by decide) rfl ?_
    refine G.aloadN H0 hx 11 (hb hby d25_10) rfl rfl rfl ?_
    refine G.iloadN H0 hx 12 (hb hby d25_11) rfl rfl ?_
    refine G.iloadN H0 hx 13 (hb hby d25_12) rfl rfl ?_
    refine Wk.callS W0 hx hoZ (y := (⟨"java/util/Arrays", "copyOfRangeByte", "([BII)[B"⟩ : MethodName)) (wd hw 108 rfl) (wd hw 109 rfl) (wd hw 106 rfl) (wd hw 110 rfl) (by decide) (Wd := 0) (CN.back (rmCRB l Z a0 hw b kb f t n vs us h0 W0.old Vb hf0 htf hn0 hcap hmin hq4 hus) W0.warm (wd hw 110 rfl) (wd hw 106 rfl) (by decide) (by decide)) (by rw [hml]; rfl) [(.ref b), (.int f), (.int t)] [] (lenOf pd8 rfl) rfl rfl (Nat.le_of_eq rfl) 16 (hb hby d25_13) rfl (by decide) (by decide) (fun _ q => nomatch q) ?_
    intro v103 T103 h103 W103 K103 Ch103 Q103
    have H103 := W103.here; have z103 := K103.1
    obtain ⟨r103, k103, rfl, g103, V103⟩ := Q103; have l103 := ltN V103.lt
    show Goes p e below (PostN s Z h0 [] (QCR Z b kb f t n vs us h0) ({ frames := 2, cells := 1, slots := 8, locals := 80 } : Room).cells ({ frames := 2, cells := 1, slots := 8, locals := 80 } : Room).slots) (T103.setTop (mkF m 16 #[.val (.ref b), .val (.int f), .val (.int t)] [(.ref r103)]))
    exact Wk.retA W103 hx (t := (.array .byte)) rfl rfl hret hlk (hb hby d25_16) (by decide) (by decide) ⟨_, _, rfl, by omega, V103⟩
def QSBB (Z : State) (a : Addr) (b : Addr) (h0 : Heap) : Option Value → Heap → Prop := fun v h => v = none ∧ Exa Z h a "java/lang/String" ∧ Fld Z h a "java/lang/String" "value" "[B" (.ref b) ∧ Fld Z h a "java/lang/String" "coder" "B" (.int 0)
set_option maxRecDepth 65536 in
set_option maxHeartbeats 40000000 in
theorem rmSBB (l : Launch) (Z : State) (a0 : Array Value) (hw : ∀ d ∈ tables_1, d.before a0 Z = true) (a : Addr) (b : Addr) (h0 : Heap) (O : Ext Z.heap h0) (gz_a : Z.heap.size ≤ a) (Ea : Exa Z h0 a "java/lang/String") (Fv : Fld Z h0 a "java/lang/String" "value" "[B" .null) (Fc : Fld Z h0 a "java/lang/String" "coder" "B" (.int 0)) :
    CN [] l Z (⟨"java/lang/String", "<init>", "([BB)V"⟩ : MethodName) jdk_42_method_151_code 3 (Option.none : Option Jvm.ClassFile.FieldType) ({ frames := 1, cells := 0, slots := 0, locals := 12 } : Room) #[(.ref a), (.ref b), (.int (0 : Int32))] h0 [a] (QSBB Z a b h0) := by
  refine CN.of_walk (plainFor_of_name pn1) O (ala gz_a ala0) ?_
  intro p e s m below meth c T0 W0 hx hby hml hoZ hnm hret hlk
  have H0 := W0.here; have hz0 := W0.zsize
  refine Goes.cast (ef11 m a b (0 : Int32)) ?_
  refine G.aloadN H0 hx 1 (hb hby d28_0) rfl rfl rfl ?_
  refine Wk.initO W0 hx hoZ (wd hw 22 rfl) (wd hw 23 rfl) (wd hw 24 rfl) (by rw [hml]; rfl) 4 (hb hby d28_1) rfl (by decide) 0 (Nat.le_of_eq rfl) (by decide) ?_
  intro T101 W101; have H101 := W101.here
  refine G.aloadN H101 hx 5 (hb hby d28_4) rfl rfl rfl ?_
  refine G.aloadN H101 hx 6 (hb hby d28_5) rfl rfl rfl ?_
  refine Wk.putF W101 hx hoZ (wd hw 39 rfl) Via.refl (.ref b) Fv Ea (Or.inr ⟨(wd hw 40 rfl), rfl, hnm⟩) (wd hw 13 rfl) (ty := (.array .byte)) (by decide) rfl rfl (Or.inl (by simp)) safe0 9 (hb hby d28_6) rfl ?_
  intro T102 h102 W102 R102 Ch102; have H102 := W102.here; have z102 := R102.size
  have F102 := (Fv).same R102
  refine G.aloadN H102 hx 10 (hb hby d28_9) rfl rfl rfl ?_
  refine G.iloadN H102 hx 11 (hb hby d28_10) rfl rfl ?_
  refine Wk.putF W102 hx hoZ (wd hw 37 rfl) Via.refl (.int (0 : Int32)) (Fc.other R102 (Or.inr (slot_ne (Or.inr (wd hw 38 rfl)) (Or.inr (wd hw 40 rfl)) (by decide) (t := .byte) (t' := (.array .byte)) (by decide) (by decide)))) (Ea.wr R102) (Or.inr ⟨(wd hw 38 rfl), rfl, hnm⟩) (wd hw 13 rfl) (ty := .byte) (by decide) rfl rfl (Or.inl (by simp)) safe0 14 (hb hby d28_11) rfl ?_
  intro T103 h103 W103 R103 Ch103; have H103 := W103.here; have z103 := R103.size
  have F103 := ((Fc.other R102 (Or.inr (slot_ne (Or.inr (wd hw 38 rfl)) (Or.inr (wd hw 40 rfl)) (by decide) (t := .byte) (t' := (.array .byte)) (by decide) (by decide))))).same R103
  exact Wk.retV W103 hx hret hlk (hb hby d28_14) (by decide) (by decide) ⟨rfl, ((Ea.wr R102).wr R103), (F102.other R103 (Or.inr (slot_ne (Or.inr (wd hw 40 rfl)) (Or.inr (wd hw 38 rfl)) (by decide) (t := (.array .byte)) (t' := .byte) (by decide) (by decide)))), F103⟩
def QNSt (Z : State) (b : Addr) (kb : ClassId) (f : Int32) (t : Int32) (n : Int32) (vs : List Value) (us : List Value) (L : Int32) (h0 : Heap) : Option Value → Heap → Prop := fun v h => ∃ (r b2 : Addr) (k : ClassId), v = some (.ref r) ∧ h0.size ≤ r ∧ Exa Z h r "java/lang/String" ∧ Fld Z h r "java/lang/String" "value" "[B" (.ref b2) ∧ Fld Z h r "java/lang/String" "coder" "B" (.int 0) ∧ Arv Z h b2 k .byte (t - f) us (.int 0)
set_option maxRecDepth 65536 in
set_option maxHeartbeats 40000000 in
theorem rmNSt (l : Launch) (Z : State) (a0 : Array Value) (hw : ∀ d ∈ tables_1, d.before a0 Z = true) (b : Addr) (kb : ClassId) (f : Int32) (t : Int32) (n : Int32) (vs : List Value) (us : List Value) (L : Int32) (h0 : Heap) (O : Ext Z.heap h0) (Vb : Arv Z h0 b kb .byte n vs (.int 0)) (hL : ¬ L = 0) (ht : f + L = t) (hne0 : f = 0 → ¬ t = n) (hf0 : ¬ f < 0) (htf : ¬ t < f) (hn0 : ¬ (t - f) < 0) (hcap : (t - f).toNatClampNeg ≤ 8) (hmin : f_min (n - f) (t - f) = t - f) (hq4 : f.toNatClampNeg + (t - f).toNatClampNeg ≤ n.toNatClampNeg) (hus : us = (List.range (t - f).toNatClampNeg).map fun i => vs.getD (f.toNatClampNeg + i) (.int 0)) :
    CN [] l Z (⟨"java/lang/StringLatin1", "newString", "([BII)Ljava/lang/String;"⟩ : MethodName) jdk_43_method_47_code 3 (Option.some (Jvm.ClassFile.FieldType.object "java/lang/String")) ({ frames := 3, cells := 2, slots := 12, locals := 110 } : Room) #[(.ref b), (.int f), (.int L)] h0 [] (QNSt Z b kb f t n vs us L h0) := by
  refine CN.of_walk (plainFor_of_name pn2) O (fun _ q => nomatch q) ?_
  intro p e s m below meth c T0 W0 hx hby hml hoZ hnm hret hlk
  have H0 := W0.here; have hz0 := W0.zsize
  refine Goes.cast (ef6 m b f L) ?_
  have lb := ltN Vb.lt
  refine G.iloadN H0 hx 1 (hb hby d24_0) rfl rfl ?_
  refine G.ifY H0 hx 7 (hb hby d24_1) (zne hL).2 (by decide) rfl ?_
  refine Wk.newO W0 hx hoZ (wd hw 103 rfl) (wd hw 13 rfl) (wd hw 14 rfl) 10 (hb hby d24_7) rfl (by decide) (by decide) ?_
  intro T101 h101 a101 W101 E101 g101 A101 D101 S101
  have H101 := W101.here; have z101 := E101.1; have gu101 := Nat.le_of_eq g101; have gt101 := Nat.le_of_eq g101.symm; have l101 := ltN A101.lt
  refine G.dup H101 hx 11 (hb hby d24_10) rfl rfl ?_
  refine G.aloadN H101 hx 12 (hb hby d24_11) rfl rfl rfl ?_
  refine G.iloadN H101 hx 13 (hb hby d24_12) rfl rfl ?_
  refine G.iloadN H101 hx 14 (hb hby d24_13) rfl rfl ?_
  refine G.iloadN H101 hx 15 (hb hby d24_14) rfl rfl ?_
  refine G.iaddF H101 hx 16 t (hb hby d24_15) ht rfl ?_
  refine Wk.callS W101 hx hoZ (y := (⟨"java/util/Arrays", "copyOfRange", "([BII)[B"⟩ : MethodName)) (wd hw 104 rfl) (wd hw 105 rfl) (wd hw 106 rfl) (wd hw 107 rfl) (by decide) (Wd := 2) (CN.back (rmCR l Z a0 hw b kb f t n vs us h101 W101.old (Vb.ext E101) hne0 hf0 htf hn0 hcap hmin hq4 hus) W101.warm (wd hw 107 rfl) (wd hw 106 rfl) (by decide) (by decide)) (by rw [hml]; rfl) [(.ref b), (.int f), (.int t)] [(.ref a101), (.ref a101)] (lenOf pd8 rfl) rfl rfl (Nat.le_of_eq rfl) 19 (hb hby d24_16) rfl (by decide) (by decide) (fun _ q => nomatch q) ?_
  intro v102 T102 h102 W102 K102 Ch102 Q102
  have H102 := W102.here; have z102 := K102.1
  obtain ⟨r102, k102, rfl, g102, V102⟩ := Q102; have l102 := ltN V102.lt
  show Goes p e below (PostN s Z h0 [] (QNSt Z b kb f t n vs us L h0) ({ frames := 3, cells := 2, slots := 12, locals := 110 } : Room).cells ({ frames := 3, cells := 2, slots := 12, locals := 110 } : Room).slots) (T102.setTop (mkF m 19 #[.val (.ref b), .val (.int f), .val (.int L)] [(.ref r102), (.ref a101), (.ref a101)]))
  refine G.iconst H102 hx 20 (0 : Int32) (hb hby d24_19) rfl rfl ?_
  refine Wk.special W102 hx hoZ (y := (⟨"java/lang/String", "<init>", "([BB)V"⟩ : MethodName)) rfl (wd hw 119 rfl) (wd hw 120 rfl) (wd hw 121 rfl) (by decide) (Wd := 1) (CN.back (rmSBB l Z a0 hw a101 r102 h102 W102.old (by omega) (A101.keep K102) ((D101 (Or.inr (wd hw 40 rfl)) (ty := (.array .byte)) (by decide)).keep K102 nin0) ((D101 (Or.inr (wd hw 38 rfl)) (ty := .byte) (by decide)).keep K102 nin0)) W102.warm (wd hw 121 rfl) (wd hw 14 rfl) (by decide) (by decide)) a101 (by rw [hml]; rfl) [(.ref r102), (.int (0 : Int32))] [(.ref a101)] (lenOf pd9 rfl) rfl rfl (Nat.le_of_eq rfl) 23 (hb hby d24_20) rfl (by decide) (by decide) (hws1 (Or.inr (by omega)) safe0) ?_
  intro v103 T103 h103 W103 K103 Ch103 Q103
  have H103 := W103.here; have z103 := K103.1
  obtain ⟨rfl, X103, F103v, F103c⟩ := Q103
  show Goes p e below (PostN s Z h0 [] (QNSt Z b kb f t n vs us L h0) ({ frames := 3, cells := 2, slots := 12, locals := 110 } : Room).cells ({ frames := 3, cells := 2, slots := 12, locals := 110 } : Room).slots) (T103.setTop (mkF m 23 #[.val (.ref b), .val (.int f), .val (.int L)] [(.ref a101)]))
  exact Wk.retA W103 hx (t := (.object "java/lang/String")) rfl rfl hret hlk (hb hby d24_23) (by decide) (by decide) ⟨_, _, _, rfl, by omega, X103, F103v, F103c, (V102.keep K103 (ninS (neA (by omega)) nin0))⟩
def QSub (Z : State) (cz : Int32) (fm : Value) (a : Addr) (f : Int32) (t : Int32) (n : Int32) (cs : List Int32) (ds : List Int32) (h0 : Heap) : Option Value → Heap → Prop := fun v h => ∃ r : Addr, v = some (.ref r) ∧ h0.size ≤ r ∧ SV Z h r ds
set_option maxRecDepth 65536 in
set_option maxHeartbeats 40000000 in
theorem rmSub (l : Launch) (Z : State) (a0 : Array Value) (hw : ∀ d ∈ tables_1, d.before a0 Z = true) (cz : Int32) (fm : Value) (a : Addr) (f : Int32) (t : Int32) (n : Int32) (cs : List Int32) (ds : List Int32) (h0 : Heap) (O : Ext Z.heap h0) (hCS : Sta Z Z.heap "java/lang/String" "COMPACT_STRINGS" "Z" (.int cz)) (hcz : ¬ cz = 0) (hFM : Sta Z Z.heap "jdk/internal/util/Preconditions" "SIOOBE_FORMATTER" "Ljava/util/function/BiFunction;" fm) (hfm : fm.isRef = true) (Sa : SV Z h0 a cs) (h8 : ∀ c ∈ cs, C8 c) (hn : Int32.ofNat cs.length = n) (hnt : ¬ n < t) (hL : ¬ (t - f) = 0) (hne0 : f = 0 → ¬ t = n) (hf0 : ¬ f < 0) (htf : ¬ t < f) (hn0 : ¬ (t - f) < 0) (hcap : (t - f).toNatClampNeg ≤ 8) (hmin : f_min (n - f) (t - f) = t - f) (hq4 : f.toNatClampNeg + (t - f).toNatClampNeg ≤ n.toNatClampNeg) (hus : ((ds.map OwnKit.i2b).map Value.int) = (List.range (t - f).toNatClampNeg).map fun i => ((cs.map OwnKit.i2b).map Value.int).getD (f.toNatClampNeg + i) (.int 0)) (hN : t - f = Int32.ofNat ds.length) (hd8 : ∀ c ∈ ds, C8 c) (hdl : ds.length ≤ 4000) :
    CN [] l Z (⟨"java/lang/String", "substring", "(II)Ljava/lang/String;"⟩ : MethodName) jdk_42_method_92_code 5 (Option.some (Jvm.ClassFile.FieldType.object "java/lang/String")) ({ frames := 4, cells := 2, slots := 12, locals := 140 } : Room) #[(.ref a), (.int f), (.int t)] h0 [] (QSub Z cz fm a f t n cs ds h0) := by
  refine CN.of_walk (plainFor_of_name pn1) O (fun _ q => nomatch q) ?_
  intro p e s m below meth c T0 W0 hx hby hml hoZ hnm hret hlk
  have H0 := W0.here; have hz0 := W0.zsize
  refine Goes.cast (ef10 m a f t) ?_
  rw [← hn] at hnt hne0 hmin hq4
  obtain ⟨b, kb, Fc, Fv, Vb, ln⟩ := SV.lat Sa h8
  have lb := ltN Vb.lt; have Ea := Sa.exa; have la := ltN Sa.lt
  refine G.aloadN H0 hx 1 (hb hby d21_0) rfl rfl rfl ?_
  refine Wk.virtual W0 hx hoZ (y := (⟨"java/lang/String", "length", "()I"⟩ : MethodName)) (z := (⟨"java/lang/String", "length", "()I"⟩ : MethodName)) (wd hw 60 rfl) (wd hw 61 rfl) (wd hw 63 rfl) (wd hw 62 rfl) (W0.nf (wd hw 63 rfl)) (by decide) (Wd := 0) (lenS W0.warm (wsLen hw) (wd hw 13 rfl) W0.old Sa hCS hcz (by decide) (by decide)) Ea (by rw [hml]; rfl) [] [] (lenOf pd5 rfl) rfl rfl (Nat.le_of_eq rfl) 4 (hb hby d21_1) rfl (by decide) (by decide) (fun _ q => nomatch q) ?_
  intro v101 T101 h101 W101 K101 Ch101 Q101
  have H101 := W101.here; have z101 := K101.1
  obtain ⟨rfl, eh101⟩ := Q101
  show Goes p e below (PostN s Z h0 [] (QSub Z cz fm a f t n cs ds h0) ({ frames := 4, cells := 2, slots := 12, locals := 140 } : Room).cells ({ frames := 4, cells := 2, slots := 12, locals := 140 } : Room).slots) (T101.setTop (mkF m 4 #[.val (.ref a), .val (.int f), .val (.int t), .unset, .unset] [(.int (Int32.ofNat cs.length))]))
  refine G.istoreNX H101 hx 5 #[.val (.ref a), .val (.int f), .val (.int t), .val (.int (Int32.ofNat cs.length)), .unset] (hb hby d21_4) rfl rfl ?_
  refine G.iloadN H101 hx 6 (hb hby d21_5) rfl rfl ?_
  refine G.iloadN H101 hx 7 (hb hby d21_6) rfl rfl ?_
  refine G.iloadN H101 hx 8 (hb hby d21_7) rfl rfl ?_
  refine Wk.callS W101 hx hoZ (y := (⟨"java/lang/String", "checkBoundsBeginEnd", "(III)V"⟩ : MethodName)) (wd hw 92 rfl) (wd hw 93 rfl) (wd hw 14 rfl) (wd hw 94 rfl) (by decide) (Wd := 0) (CN.back (rmCBB l Z a0 hw fm f t (Int32.ofNat cs.length) h101 W101.old hFM hfm hf0 htf hnt) W101.warm (wd hw 94 rfl) (wd hw 14 rfl) (by decide) (by decide)) (by rw [hml]; rfl) [(.int f), (.int t), (.int (Int32.ofNat cs.length))] [] (lenOf pd10 rfl) rfl rfl (Nat.le_of_eq rfl) 11 (hb hby d21_8) rfl (by decide) (by decide) (fun _ q => nomatch q) ?_
  intro v102 T102 h102 W102 K102 Ch102 Q102
  have H102 := W102.here; have z102 := K102.1
  obtain ⟨rfl, eh102⟩ := Q102
  show Goes p e below (PostN s Z h0 [] (QSub Z cz fm a f t n cs ds h0) ({ frames := 4, cells := 2, slots := 12, locals := 140 } : Room).cells ({ frames := 4, cells := 2, slots := 12, locals := 140 } : Room).slots) (T102.setTop (mkF m 11 #[.val (.ref a), .val (.int f), .val (.int t), .val (.int (Int32.ofNat cs.length)), .unset] []))
  refine G.iloadN H102 hx 12 (hb hby d21_11) rfl rfl ?_
  by_cases c12_103 : f = 0
  ·
    refine G.ifN H102 hx 15 (hb hby d21_12) (zeq c12_103).2 rfl ?_
    refine G.iloadN H102 hx 16 (hb hby d21_15) rfl rfl ?_
    refine G.iloadN H102 hx 17 (hb hby d21_16) rfl rfl ?_
    refine G.icmpY H102 hx 22 (hb hby d21_17) (feq (hne0 c12_103)).2 (by decide) rfl ?_
    refine G.iloadN H102 hx 23 (hb hby d21_22) rfl rfl ?_
    refine G.iloadN H102 hx 24 (hb hby d21_23) rfl rfl ?_
    refine G.isub H102 hx 25 (hb hby d21_24) rfl ?_
    refine G.istoreX H102 hx 27 #[.val (.ref a), .val (.int f), .val (.int t), .val (.int (Int32.ofNat cs.length)), .val (.int (t - f))] (hb hby d21_25) rfl rfl ?_
    refine G.aloadN H102 hx 28 (hb hby d21_27) rfl rfl rfl ?_
    refine Wk.virtual W102 hx hoZ (y := (⟨"java/lang/String", "isLatin1", "()Z"⟩ : MethodName)) (z := (⟨"java/lang/String", "isLatin1", "()Z"⟩ : MethodName)) (wd hw 55 rfl) (wd hw 56 rfl) (wd hw 58 rfl) (wd hw 57 rfl) (W102.nf (wd hw 58 rfl)) (by decide) (Wd := 0) (CN.back (rmLat l Z a0 hw cz a h102 W102.old hCS hcz ((Ea.keep K101).keep K102) ((Fc.keep K101 nin0).keep K102 nin0)) W102.warm (wd hw 59 rfl) (wd hw 14 rfl) (by decide) (by decide)) ((Ea.keep K101).keep K102) (by rw [hml]; rfl) [] [] (lenOf pd4 rfl) rfl rfl (Nat.le_of_eq rfl) 31 (hb hby d21_28) rfl (by decide) (by decide) (fun _ q => nomatch q) ?_
    intro v104 T104 h104 W104 K104 Ch104 Q104
    have H104 := W104.here; have z104 := K104.1
    obtain ⟨rfl, eh104⟩ := Q104
    show Goes p e below (PostN s Z h0 [] (QSub Z cz fm a f t n cs ds h0) ({ frames := 4, cells := 2, slots := 12, locals := 140 } : Room).cells ({ frames := 4, cells := 2, slots := 12, locals := 140 } : Room).slots) (T104.setTop (mkF m 31 #[.val (.ref a), .val (.int f), .val (.int t), .val (.int (Int32.ofNat cs.length)), .val (.int (t - f))] [(.int (1 : Int32))]))
    refine G.ifN H104 hx 34 (hb hby d21_31) (zne (by decide)).1 rfl ?_
    refine G.aloadN H104 hx 35 (hb hby d21_34) rfl rfl rfl ?_
    refine Wk.getF W104 hx hoZ (host := "") (Or.inl (wd hw 39 rfl)) Via.refl (((Fv.keep K101 nin0).keep K102 nin0).keep K104 nin0) 38 (hb hby d21_35) rfl ?_
    intro T105 W105; have H105 := W105.here
    refine G.iloadN H105 hx 39 (hb hby d21_38) rfl rfl ?_
    refine G.iload H105 hx 41 (hb hby d21_39) rfl rfl ?_
    refine Wk.callS W105 hx hoZ (y := (⟨"java/lang/StringLatin1", "newString", "([BII)Ljava/lang/String;"⟩ : MethodName)) (wd hw 100 rfl) (wd hw 101 rfl) (wd hw 72 rfl) (wd hw 102 rfl) (by decide) (Wd := 0) (CN.back (rmNSt l Z a0 hw b kb f t (Int32.ofNat cs.length) ((cs.map OwnKit.i2b).map Value.int) ((ds.map OwnKit.i2b).map Value.int) (t - f) h104 W105.old (((Vb.keep K101 nin0).keep K102 nin0).keep K104 nin0) hL (fts f t) hne0 hf0 htf hn0 hcap hmin hq4 hus) W105.warm (wd hw 102 rfl) (wd hw 72 rfl) (by decide) (by decide)) (by rw [hml]; rfl) [(.ref b), (.int f), (.int (t - f))] [] (lenOf pd11 rfl) rfl rfl (Nat.le_of_eq rfl) 44 (hb hby d21_41) rfl (by decide) (by decide) (fun _ q => nomatch q) ?_
    intro v106 T106 h106 W106 K106 Ch106 Q106
    have H106 := W106.here; have z106 := K106.1
    obtain ⟨r106, b106, k106, rfl, g106, X106, F106v, F106c, V106⟩ := Q106; have l106 := ltN X106.lt; have m106 := ltN V106.lt
    show Goes p e below (PostN s Z h0 [] (QSub Z cz fm a f t n cs ds h0) ({ frames := 4, cells := 2, slots := 12, locals := 140 } : Room).cells ({ frames := 4, cells := 2, slots := 12, locals := 140 } : Room).slots) (T106.setTop (mkF m 44 #[.val (.ref a), .val (.int f), .val (.int t), .val (.int (Int32.ofNat cs.length)), .val (.int (t - f))] [(.ref r106)]))
    refine G.goto H106 hx 57 (hb hby d21_44) (by decide) rfl ?_
    exact Wk.retA W106 hx (t := (.object "java/lang/String")) rfl rfl hret hlk (hb hby d21_57) (by decide) (by decide) ⟨_, rfl, by omega, SV.ofLat X106 F106v F106c V106 hN hd8 hdl⟩
  ·
    refine G.ifY H102 hx 22 (hb hby d21_12) (zne c12_103).2 (by decide) rfl ?_
    refine G.iloadN H102 hx 23 (hb hby d21_22) rfl rfl ?_
    refine G.iloadN H102 hx 24 (hb hby d21_23) rfl rfl ?_
    refine G.isub H102 hx 25 (hb hby d21_24) rfl ?_
    refine G.istoreX H102 hx 27 #[.val (.ref a), .val (.int f), .val (.int t), .val (.int (Int32.ofNat cs.length)), .val (.int (t - f))] (hb hby d21_25) rfl rfl ?_
    refine G.aloadN H102 hx 28 (hb hby d21_27) rfl rfl rfl ?_
    refine Wk.virtual W102 hx hoZ (y := (⟨"java/lang/String", "isLatin1", "()Z"⟩ : MethodName)) (z := (⟨"java/lang/String", "isLatin1", "()Z"⟩ : MethodName)) (wd hw 55 rfl) (wd hw 56 rfl) (wd hw 58 rfl) (wd hw 57 rfl) (W102.nf (wd hw 58 rfl)) (by decide) (Wd := 0) (CN.back (rmLat l Z a0 hw cz a h102 W102.old hCS hcz ((Ea.keep K101).keep K102) ((Fc.keep K101 nin0).keep K102 nin0)) W102.warm (wd hw 59 rfl) (wd hw 14 rfl) (by decide) (by decide)) ((Ea.keep K101).keep K102) (by rw [hml]; rfl) [] [] (lenOf pd4 rfl) rfl rfl (Nat.le_of_eq rfl) 31 (hb hby d21_28) rfl (by decide) (by decide) (fun _ q => nomatch q) ?_
    intro v107 T107 h107 W107 K107 Ch107 Q107
    have H107 := W107.here; have z107 := K107.1
    obtain ⟨rfl, eh107⟩ := Q107
    show Goes p e below (PostN s Z h0 [] (QSub Z cz fm a f t n cs ds h0) ({ frames := 4, cells := 2, slots := 12, locals := 140 } : Room).cells ({ frames := 4, cells := 2, slots := 12, locals := 140 } : Room).slots) (T107.setTop (mkF m 31 #[.val (.ref a), .val (.int f), .val (.int t), .val (.int (Int32.ofNat cs.length)), .val (.int (t - f))] [(.int (1 : Int32))]))
    refine G.ifN H107 hx 34 (hb hby d21_31) (zne (by decide)).1 rfl ?_
    refine G.aloadN H107 hx 35 (hb hby d21_34) rfl rfl rfl ?_
    refine Wk.getF W107 hx hoZ (host := "") (Or.inl (wd hw 39 rfl)) Via.refl (((Fv.keep K101 nin0).keep K102 nin0).keep K107 nin0) 38 (hb hby d21_35) rfl ?_
    intro T108 W108; have H108 := W108.here
    refine G.iloadN H108 hx 39 (hb hby d21_38) rfl rfl ?_
    refine G.iload H108 hx 41 (hb hby d21_39) rfl rfl ?_
    refine Wk.callS W108 hx hoZ (y := (⟨"java/lang/StringLatin1", "newString", "([BII)Ljava/lang/String;"⟩ : MethodName)) (wd hw 100 rfl) (wd hw 101 rfl) (wd hw 72 rfl) (wd hw 102 rfl) (by decide) (Wd := 0) (CN.back (rmNSt l Z a0 hw b kb f t (Int32.ofNat cs.length) ((cs.map OwnKit.i2b).map Value.int) ((ds.map OwnKit.i2b).map Value.int) (t - f) h107 W108.old (((Vb.keep K101 nin0).keep K102 nin0).keep K107 nin0) hL (fts f t) hne0 hf0 htf hn0 hcap hmin hq4 hus) W108.warm (wd hw 102 rfl) (wd hw 72 rfl) (by decide) (by decide)) (by rw [hml]; rfl) [(.ref b), (.int f), (.int (t - f))] [] (lenOf pd11 rfl) rfl rfl (Nat.le_of_eq rfl) 44 (hb hby d21_41) rfl (by decide) (by decide) (fun _ q => nomatch q) ?_
    intro v109 T109 h109 W109 K109 Ch109 Q109
    have H109 := W109.here; have z109 := K109.1
    obtain ⟨r109, b109, k109, rfl, g109, X109, F109v, F109c, V109⟩ := Q109; have l109 := ltN X109.lt; have m109 := ltN V109.lt
    show Goes p e below (PostN s Z h0 [] (QSub Z cz fm a f t n cs ds h0) ({ frames := 4, cells := 2, slots := 12, locals := 140 } : Room).cells ({ frames := 4, cells := 2, slots := 12, locals := 140 } : Room).slots) (T109.setTop (mkF m 44 #[.val (.ref a), .val (.int f), .val (.int t), .val (.int (Int32.ofNat cs.length)), .val (.int (t - f))] [(.ref r109)]))
    refine G.goto H109 hx 57 (hb hby d21_44) (by decide) rfl ?_
    exact Wk.retA W109 hx (t := (.object "java/lang/String")) rfl rfl hret hlk (hb hby d21_57) (by decide) (by decide) ⟨_, rfl, by omega, SV.ofLat X109 F109v F109c V109 hN hd8 hdl⟩
def QTx7_3 (Z : State) (cz : Int32) (pz : Addr) (kp : ClassId) (y0 : Int32) (y1 : Int32) (y2 : Int32) (y3 : Int32) (y4 : Int32) (y5 : Int32) (y6 : Int32) (h0 : Heap) : Option Value → Heap → Prop := fun v h => ∃ a : Addr, v = some (.ref a) ∧ h0.size ≤ a ∧ SV Z h a [y0, y1, y2]
set_option maxRecDepth 65536 in
set_option maxHeartbeats 40000000 in
theorem rmTx7_3 (l : Launch) (Z : State) (a0 : Array Value) (hw : ∀ d ∈ tables_1, d.before a0 Z = true) (cz : Int32) (pz : Addr) (kp : ClassId) (y0 : Int32) (y1 : Int32) (y2 : Int32) (y3 : Int32) (y4 : Int32) (y5 : Int32) (y6 : Int32) (h0 : Heap) (O : Ext Z.heap h0) (hCS : Sta Z Z.heap "java/lang/String" "COMPACT_STRINGS" "Z" (.int cz)) (hcz : ¬ cz = 0) (Vp : Arv Z h0 pz kp .char 7 [(.int y0), (.int y1), (.int y2), (.int y3), (.int y4), (.int y5), (.int y6)] (.int 0)) (hy0 : C8 y0) (hy1 : C8 y1) (hy2 : C8 y2) :
    CN [] l Z (⟨"com/example/federation/federation/NamesDomainOfPinLaw", "text", "([CI)Ljava/lang/String;"⟩ : MethodName) method_4_code 2 (Option.some (Jvm.ClassFile.FieldType.object "java/lang/String")) ({ frames := 4, cells := 3, slots := 10, locals := 80 } : Room) #[(.ref pz), (.int (3 : Int32))] h0 [] (QTx7_3 Z cz pz kp y0 y1 y2 y3 y4 y5 y6 h0) := by
  refine CN.of_walk (plainFor_of_name pn0) O (fun _ q => nomatch q) ?_
  intro p e s m below meth c T0 W0 hx hby hml hoZ hnm hret hlk
  have H0 := W0.here; have hz0 := W0.zsize
  refine Goes.cast (ef7 m pz (3 : Int32)) ?_
  have lp := ltN Vp.lt
  refine G.iloadN H0 hx 1 (hb hby d3_0) rfl rfl ?_
  refine G.iconst H0 hx 2 (1 : Int32) (hb hby d3_1) rfl rfl ?_
  refine G.icmpY H0 hx 22 (hb hby d3_2) (feq (by decide)).2 (by decide) rfl ?_
  refine G.iloadN H0 hx 23 (hb hby d3_22) rfl rfl ?_
  refine G.iconst H0 hx 24 (2 : Int32) (hb hby d3_23) rfl rfl ?_
  refine G.icmpY H0 hx 50 (hb hby d3_24) (feq (by decide)).2 (by decide) rfl ?_
  refine G.iloadN H0 hx 51 (hb hby d3_50) rfl rfl ?_
  refine G.iconst H0 hx 52 (3 : Int32) (hb hby d3_51) rfl rfl ?_
  refine G.icmpN H0 hx 55 (hb hby d3_52) (teq (by decide)).2 rfl ?_
  refine Wk.newO W0 hx hoZ (wd hw 12 rfl) (wd hw 13 rfl) (wd hw 14 rfl) 58 (hb hby d3_55) rfl (by decide) (by decide) ?_
  intro T101 h101 a101 W101 E101 g101 A101 D101 S101
  have H101 := W101.here; have z101 := E101.1; have gu101 := Nat.le_of_eq g101; have gt101 := Nat.le_of_eq g101.symm; have l101 := ltN A101.lt
  refine G.dup H101 hx 59 (hb hby d3_58) rfl rfl ?_
  refine G.iconst H101 hx 60 (3 : Int32) (hb hby d3_59) rfl rfl ?_
  refine Wk.newP W101 hx (wd hw 8 rfl) 62 (hb hby d3_60) (by decide) 3 (by decide) rfl (by decide) (by decide) (by decide) ?_
  intro T102 h102 a102 k102 W102 E102 g102 V102 S102
  have H102 := W102.here; have z102 := E102.1; have gu102 := Nat.le_of_eq g102; have gt102 := Nat.le_of_eq g102.symm; have l102 := ltN V102.lt
  have V102 : Arv Z h102 a102 k102 .char (3 : Int32) [(.int (0 : Int32)), (.int (0 : Int32)), (.int (0 : Int32))] (.int (0 : Int32)) := V102
  refine G.dup H102 hx 63 (hb hby d3_62) rfl rfl ?_
  refine G.iconst H102 hx 64 (0 : Int32) (hb hby d3_63) rfl rfl ?_
  refine G.aloadN H102 hx 65 (hb hby d3_64) rfl rfl rfl ?_
  refine G.iconst H102 hx 66 (0 : Int32) (hb hby d3_65) rfl rfl ?_
  refine Wk.caload W102 hx ((Vp.ext E101).ext E102) ⟨by decide, by decide⟩ (.int y0) rfl 67 (hb hby d3_66) rfl ?_
  refine Wk.castore W102 hx V102 (Or.inr (by omega)) y0 (nar_c16 hy0.up) 0 rfl ⟨by decide, by decide⟩ (Nat.le_of_ble_eq_true rfl) 68 (hb hby d3_67) rfl ?_
  intro T103 h103 W103 K103 Ch103 V103; have H103 := W103.here; have z103 := K103.1
  have V103 : Arv Z h103 a102 k102 .char (3 : Int32) [(.int y0), (.int (0 : Int32)), (.int (0 : Int32))] (.int (0 : Int32)) := V103
  refine G.dup H103 hx 69 (hb hby d3_68) rfl rfl ?_
  refine G.iconst H103 hx 70 (1 : Int32) (hb hby d3_69) rfl rfl ?_
  refine G.aloadN H103 hx 71 (hb hby d3_70) rfl rfl rfl ?_
  refine G.iconst H103 hx 72 (1 : Int32) (hb hby d3_71) rfl rfl ?_
  refine Wk.caload W103 hx (((Vp.ext E101).ext E102).keep K103 (ninS (neA (by omega)) nin0)) ⟨by decide, by decide⟩ (.int y1) rfl 73 (hb hby d3_72) rfl ?_
  refine Wk.castore W103 hx V103 (Or.inr (by omega)) y1 (nar_c16 hy1.up) 1 rfl ⟨by decide, by decide⟩ (Nat.le_of_ble_eq_true rfl) 74 (hb hby d3_73) rfl ?_
  intro T104 h104 W104 K104 Ch104 V104; have H104 := W104.here; have z104 := K104.1
  have V104 : Arv Z h104 a102 k102 .char (3 : Int32) [(.int y0), (.int y1), (.int (0 : Int32))] (.int (0 : Int32)) := V104
  refine G.dup H104 hx 75 (hb hby d3_74) rfl rfl ?_
  refine G.iconst H104 hx 76 (2 : Int32) (hb hby d3_75) rfl rfl ?_
  refine G.aloadN H104 hx 77 (hb hby d3_76) rfl rfl rfl ?_
  refine G.iconst H104 hx 78 (2 : Int32) (hb hby d3_77) rfl rfl ?_
  refine Wk.caload W104 hx ((((Vp.ext E101).ext E102).keep K103 (ninS (neA (by omega)) nin0)).keep K104 (ninS (neA (by omega)) nin0)) ⟨by decide, by decide⟩ (.int y2) rfl 79 (hb hby d3_78) rfl ?_
  refine Wk.castore W104 hx V104 (Or.inr (by omega)) y2 (nar_c16 hy2.up) 2 rfl ⟨by decide, by decide⟩ (Nat.le_of_ble_eq_true rfl) 80 (hb hby d3_79) rfl ?_
  intro T105 h105 W105 K105 Ch105 V105; have H105 := W105.here; have z105 := K105.1
  have V105 : Arv Z h105 a102 k102 .char (3 : Int32) [(.int y0), (.int y1), (.int y2)] (.int (0 : Int32)) := V105
  refine Wk.special W105 hx hoZ (y := (⟨"java/lang/String", "<init>", "([C)V"⟩ : MethodName)) rfl (wd hw 15 rfl) (wd hw 16 rfl) (wd hw 17 rfl) (by decide) (Wd := 1) (newS W105.warm (wsNew hw) (wd hw 13 rfl) W105.old (by omega) ((((A101.ext E102).keep K103).keep K104).keep K105) (((((D101 (Or.inr (wd hw 40 rfl)) (ty := (.array .byte)) (by decide)).ext E102).keep K103 (ninS (neA (by omega)) nin0)).keep K104 (ninS (neA (by omega)) nin0)).keep K105 (ninS (neA (by omega)) nin0)) (((((D101 (Or.inr (wd hw 38 rfl)) (ty := .byte) (by decide)).ext E102).keep K103 (ninS (neA (by omega)) nin0)).keep K104 (ninS (neA (by omega)) nin0)).keep K105 (ninS (neA (by omega)) nin0)) (cs := [y0, y1, y2]) V105 hCS hcz 3 rfl rfl (by decide) (by decide) (ala hy0 (ala hy1 (ala hy2 (ala0)))) (by decide) (by decide)) a101 (by rw [hml]; rfl) [(.ref a102)] [(.ref a101)] (lenOf pd12 rfl) rfl rfl (Nat.le_of_eq rfl) 83 (hb hby d3_80) rfl (by decide) (by decide) (hws1 (Or.inr (by omega)) safe0) ?_
  intro v106 T106 h106 W106 K106 Ch106 Q106
  have H106 := W106.here; have z106 := K106.1
  obtain ⟨rfl, Sv106⟩ := Q106
  show Goes p e below (PostN s Z h0 [] (QTx7_3 Z cz pz kp y0 y1 y2 y3 y4 y5 y6 h0) ({ frames := 4, cells := 3, slots := 10, locals := 80 } : Room).cells ({ frames := 4, cells := 3, slots := 10, locals := 80 } : Room).slots) (T106.setTop (mkF m 83 #[.val (.ref pz), .val (.int (3 : Int32))] [(.ref a101)]))
  exact Wk.retA W106 hx (t := (.object "java/lang/String")) rfl rfl hret hlk (hb hby d3_83) (by decide) (by decide) ⟨_, rfl, by omega, Sv106⟩
def QTx7_4 (Z : State) (cz : Int32) (pz : Addr) (kp : ClassId) (y0 : Int32) (y1 : Int32) (y2 : Int32) (y3 : Int32) (y4 : Int32) (y5 : Int32) (y6 : Int32) (h0 : Heap) : Option Value → Heap → Prop := fun v h => ∃ a : Addr, v = some (.ref a) ∧ h0.size ≤ a ∧ SV Z h a [y0, y1, y2, y3]
set_option maxRecDepth 65536 in
set_option maxHeartbeats 40000000 in
theorem rmTx7_4 (l : Launch) (Z : State) (a0 : Array Value) (hw : ∀ d ∈ tables_1, d.before a0 Z = true) (cz : Int32) (pz : Addr) (kp : ClassId) (y0 : Int32) (y1 : Int32) (y2 : Int32) (y3 : Int32) (y4 : Int32) (y5 : Int32) (y6 : Int32) (h0 : Heap) (O : Ext Z.heap h0) (hCS : Sta Z Z.heap "java/lang/String" "COMPACT_STRINGS" "Z" (.int cz)) (hcz : ¬ cz = 0) (Vp : Arv Z h0 pz kp .char 7 [(.int y0), (.int y1), (.int y2), (.int y3), (.int y4), (.int y5), (.int y6)] (.int 0)) (hy0 : C8 y0) (hy1 : C8 y1) (hy2 : C8 y2) (hy3 : C8 y3) :
    CN [] l Z (⟨"com/example/federation/federation/NamesDomainOfPinLaw", "text", "([CI)Ljava/lang/String;"⟩ : MethodName) method_4_code 2 (Option.some (Jvm.ClassFile.FieldType.object "java/lang/String")) ({ frames := 4, cells := 3, slots := 12, locals := 80 } : Room) #[(.ref pz), (.int (4 : Int32))] h0 [] (QTx7_4 Z cz pz kp y0 y1 y2 y3 y4 y5 y6 h0) := by
  refine CN.of_walk (plainFor_of_name pn0) O (fun _ q => nomatch q) ?_
  intro p e s m below meth c T0 W0 hx hby hml hoZ hnm hret hlk
  have H0 := W0.here; have hz0 := W0.zsize
  refine Goes.cast (ef7 m pz (4 : Int32)) ?_
  have lp := ltN Vp.lt
  refine G.iloadN H0 hx 1 (hb hby d3_0) rfl rfl ?_
  refine G.iconst H0 hx 2 (1 : Int32) (hb hby d3_1) rfl rfl ?_
  refine G.icmpY H0 hx 22 (hb hby d3_2) (feq (by decide)).2 (by decide) rfl ?_
  refine G.iloadN H0 hx 23 (hb hby d3_22) rfl rfl ?_
  refine G.iconst H0 hx 24 (2 : Int32) (hb hby d3_23) rfl rfl ?_
  refine G.icmpY H0 hx 50 (hb hby d3_24) (feq (by decide)).2 (by decide) rfl ?_
  refine G.iloadN H0 hx 51 (hb hby d3_50) rfl rfl ?_
  refine G.iconst H0 hx 52 (3 : Int32) (hb hby d3_51) rfl rfl ?_
  refine G.icmpY H0 hx 84 (hb hby d3_52) (feq (by decide)).2 (by decide) rfl ?_
  refine G.iloadN H0 hx 85 (hb hby d3_84) rfl rfl ?_
  refine G.iconst H0 hx 86 (4 : Int32) (hb hby d3_85) rfl rfl ?_
  refine G.icmpN H0 hx 89 (hb hby d3_86) (teq (by decide)).2 rfl ?_
  refine Wk.newO W0 hx hoZ (wd hw 12 rfl) (wd hw 13 rfl) (wd hw 14 rfl) 92 (hb hby d3_89) rfl (by decide) (by decide) ?_
  intro T101 h101 a101 W101 E101 g101 A101 D101 S101
  have H101 := W101.here; have z101 := E101.1; have gu101 := Nat.le_of_eq g101; have gt101 := Nat.le_of_eq g101.symm; have l101 := ltN A101.lt
  refine G.dup H101 hx 93 (hb hby d3_92) rfl rfl ?_
  refine G.iconst H101 hx 94 (4 : Int32) (hb hby d3_93) rfl rfl ?_
  refine Wk.newP W101 hx (wd hw 8 rfl) 96 (hb hby d3_94) (by decide) 4 (by decide) rfl (by decide) (by decide) (by decide) ?_
  intro T102 h102 a102 k102 W102 E102 g102 V102 S102
  have H102 := W102.here; have z102 := E102.1; have gu102 := Nat.le_of_eq g102; have gt102 := Nat.le_of_eq g102.symm; have l102 := ltN V102.lt
  have V102 : Arv Z h102 a102 k102 .char (4 : Int32) [(.int (0 : Int32)), (.int (0 : Int32)), (.int (0 : Int32)), (.int (0 : Int32))] (.int (0 : Int32)) := V102
  refine G.dup H102 hx 97 (hb hby d3_96) rfl rfl ?_
  refine G.iconst H102 hx 98 (0 : Int32) (hb hby d3_97) rfl rfl ?_
  refine G.aloadN H102 hx 99 (hb hby d3_98) rfl rfl rfl ?_
  refine G.iconst H102 hx 100 (0 : Int32) (hb hby d3_99) rfl rfl ?_
  refine Wk.caload W102 hx ((Vp.ext E101).ext E102) ⟨by decide, by decide⟩ (.int y0) rfl 101 (hb hby d3_100) rfl ?_
  refine Wk.castore W102 hx V102 (Or.inr (by omega)) y0 (nar_c16 hy0.up) 0 rfl ⟨by decide, by decide⟩ (Nat.le_of_ble_eq_true rfl) 102 (hb hby d3_101) rfl ?_
  intro T103 h103 W103 K103 Ch103 V103; have H103 := W103.here; have z103 := K103.1
  have V103 : Arv Z h103 a102 k102 .char (4 : Int32) [(.int y0), (.int (0 : Int32)), (.int (0 : Int32)), (.int (0 : Int32))] (.int (0 : Int32)) := V103
  refine G.dup H103 hx 103 (hb hby d3_102) rfl rfl ?_
  refine G.iconst H103 hx 104 (1 : Int32) (hb hby d3_103) rfl rfl ?_
  refine G.aloadN H103 hx 105 (hb hby d3_104) rfl rfl rfl ?_
  refine G.iconst H103 hx 106 (1 : Int32) (hb hby d3_105) rfl rfl ?_
  refine Wk.caload W103 hx (((Vp.ext E101).ext E102).keep K103 (ninS (neA (by omega)) nin0)) ⟨by decide, by decide⟩ (.int y1) rfl 107 (hb hby d3_106) rfl ?_
  refine Wk.castore W103 hx V103 (Or.inr (by omega)) y1 (nar_c16 hy1.up) 1 rfl ⟨by decide, by decide⟩ (Nat.le_of_ble_eq_true rfl) 108 (hb hby d3_107) rfl ?_
  intro T104 h104 W104 K104 Ch104 V104; have H104 := W104.here; have z104 := K104.1
  have V104 : Arv Z h104 a102 k102 .char (4 : Int32) [(.int y0), (.int y1), (.int (0 : Int32)), (.int (0 : Int32))] (.int (0 : Int32)) := V104
  refine G.dup H104 hx 109 (hb hby d3_108) rfl rfl ?_
  refine G.iconst H104 hx 110 (2 : Int32) (hb hby d3_109) rfl rfl ?_
  refine G.aloadN H104 hx 111 (hb hby d3_110) rfl rfl rfl ?_
  refine G.iconst H104 hx 112 (2 : Int32) (hb hby d3_111) rfl rfl ?_
  refine Wk.caload W104 hx ((((Vp.ext E101).ext E102).keep K103 (ninS (neA (by omega)) nin0)).keep K104 (ninS (neA (by omega)) nin0)) ⟨by decide, by decide⟩ (.int y2) rfl 113 (hb hby d3_112) rfl ?_
  refine Wk.castore W104 hx V104 (Or.inr (by omega)) y2 (nar_c16 hy2.up) 2 rfl ⟨by decide, by decide⟩ (Nat.le_of_ble_eq_true rfl) 114 (hb hby d3_113) rfl ?_
  intro T105 h105 W105 K105 Ch105 V105; have H105 := W105.here; have z105 := K105.1
  have V105 : Arv Z h105 a102 k102 .char (4 : Int32) [(.int y0), (.int y1), (.int y2), (.int (0 : Int32))] (.int (0 : Int32)) := V105
  refine G.dup H105 hx 115 (hb hby d3_114) rfl rfl ?_
  refine G.iconst H105 hx 116 (3 : Int32) (hb hby d3_115) rfl rfl ?_
  refine G.aloadN H105 hx 117 (hb hby d3_116) rfl rfl rfl ?_
  refine G.iconst H105 hx 118 (3 : Int32) (hb hby d3_117) rfl rfl ?_
  refine Wk.caload W105 hx (((((Vp.ext E101).ext E102).keep K103 (ninS (neA (by omega)) nin0)).keep K104 (ninS (neA (by omega)) nin0)).keep K105 (ninS (neA (by omega)) nin0)) ⟨by decide, by decide⟩ (.int y3) rfl 119 (hb hby d3_118) rfl ?_
  refine Wk.castore W105 hx V105 (Or.inr (by omega)) y3 (nar_c16 hy3.up) 3 rfl ⟨by decide, by decide⟩ (Nat.le_of_ble_eq_true rfl) 120 (hb hby d3_119) rfl ?_
  intro T106 h106 W106 K106 Ch106 V106; have H106 := W106.here; have z106 := K106.1
  have V106 : Arv Z h106 a102 k102 .char (4 : Int32) [(.int y0), (.int y1), (.int y2), (.int y3)] (.int (0 : Int32)) := V106
  refine Wk.special W106 hx hoZ (y := (⟨"java/lang/String", "<init>", "([C)V"⟩ : MethodName)) rfl (wd hw 15 rfl) (wd hw 16 rfl) (wd hw 17 rfl) (by decide) (Wd := 1) (newS W106.warm (wsNew hw) (wd hw 13 rfl) W106.old (by omega) (((((A101.ext E102).keep K103).keep K104).keep K105).keep K106) ((((((D101 (Or.inr (wd hw 40 rfl)) (ty := (.array .byte)) (by decide)).ext E102).keep K103 (ninS (neA (by omega)) nin0)).keep K104 (ninS (neA (by omega)) nin0)).keep K105 (ninS (neA (by omega)) nin0)).keep K106 (ninS (neA (by omega)) nin0)) ((((((D101 (Or.inr (wd hw 38 rfl)) (ty := .byte) (by decide)).ext E102).keep K103 (ninS (neA (by omega)) nin0)).keep K104 (ninS (neA (by omega)) nin0)).keep K105 (ninS (neA (by omega)) nin0)).keep K106 (ninS (neA (by omega)) nin0)) (cs := [y0, y1, y2, y3]) V106 hCS hcz 4 rfl rfl (by decide) (by decide) (ala hy0 (ala hy1 (ala hy2 (ala hy3 (ala0))))) (by decide) (by decide)) a101 (by rw [hml]; rfl) [(.ref a102)] [(.ref a101)] (lenOf pd12 rfl) rfl rfl (Nat.le_of_eq rfl) 123 (hb hby d3_120) rfl (by decide) (by decide) (hws1 (Or.inr (by omega)) safe0) ?_
  intro v107 T107 h107 W107 K107 Ch107 Q107
  have H107 := W107.here; have z107 := K107.1
  obtain ⟨rfl, Sv107⟩ := Q107
  show Goes p e below (PostN s Z h0 [] (QTx7_4 Z cz pz kp y0 y1 y2 y3 y4 y5 y6 h0) ({ frames := 4, cells := 3, slots := 12, locals := 80 } : Room).cells ({ frames := 4, cells := 3, slots := 12, locals := 80 } : Room).slots) (T107.setTop (mkF m 123 #[.val (.ref pz), .val (.int (4 : Int32))] [(.ref a101)]))
  exact Wk.retA W107 hx (t := (.object "java/lang/String")) rfl rfl hret hlk (hb hby d3_123) (by decide) (by decide) ⟨_, rfl, by omega, Sv107⟩
def QTx7_5 (Z : State) (cz : Int32) (pz : Addr) (kp : ClassId) (y0 : Int32) (y1 : Int32) (y2 : Int32) (y3 : Int32) (y4 : Int32) (y5 : Int32) (y6 : Int32) (h0 : Heap) : Option Value → Heap → Prop := fun v h => ∃ a : Addr, v = some (.ref a) ∧ h0.size ≤ a ∧ SV Z h a [y0, y1, y2, y3, y4]
set_option maxRecDepth 65536 in
set_option maxHeartbeats 40000000 in
theorem rmTx7_5 (l : Launch) (Z : State) (a0 : Array Value) (hw : ∀ d ∈ tables_1, d.before a0 Z = true) (cz : Int32) (pz : Addr) (kp : ClassId) (y0 : Int32) (y1 : Int32) (y2 : Int32) (y3 : Int32) (y4 : Int32) (y5 : Int32) (y6 : Int32) (h0 : Heap) (O : Ext Z.heap h0) (hCS : Sta Z Z.heap "java/lang/String" "COMPACT_STRINGS" "Z" (.int cz)) (hcz : ¬ cz = 0) (Vp : Arv Z h0 pz kp .char 7 [(.int y0), (.int y1), (.int y2), (.int y3), (.int y4), (.int y5), (.int y6)] (.int 0)) (hy0 : C8 y0) (hy1 : C8 y1) (hy2 : C8 y2) (hy3 : C8 y3) (hy4 : C8 y4) :
    CN [] l Z (⟨"com/example/federation/federation/NamesDomainOfPinLaw", "text", "([CI)Ljava/lang/String;"⟩ : MethodName) method_4_code 2 (Option.some (Jvm.ClassFile.FieldType.object "java/lang/String")) ({ frames := 4, cells := 3, slots := 14, locals := 80 } : Room) #[(.ref pz), (.int (5 : Int32))] h0 [] (QTx7_5 Z cz pz kp y0 y1 y2 y3 y4 y5 y6 h0) := by
  refine CN.of_walk (plainFor_of_name pn0) O (fun _ q => nomatch q) ?_
  intro p e s m below meth c T0 W0 hx hby hml hoZ hnm hret hlk
  have H0 := W0.here; have hz0 := W0.zsize
  refine Goes.cast (ef7 m pz (5 : Int32)) ?_
  have lp := ltN Vp.lt
  refine G.iloadN H0 hx 1 (hb hby d3_0) rfl rfl ?_
  refine G.iconst H0 hx 2 (1 : Int32) (hb hby d3_1) rfl rfl ?_
  refine G.icmpY H0 hx 22 (hb hby d3_2) (feq (by decide)).2 (by decide) rfl ?_
  refine G.iloadN H0 hx 23 (hb hby d3_22) rfl rfl ?_
  refine G.iconst H0 hx 24 (2 : Int32) (hb hby d3_23) rfl rfl ?_
  refine G.icmpY H0 hx 50 (hb hby d3_24) (feq (by decide)).2 (by decide) rfl ?_
  refine G.iloadN H0 hx 51 (hb hby d3_50) rfl rfl ?_
  refine G.iconst H0 hx 52 (3 : Int32) (hb hby d3_51) rfl rfl ?_
  refine G.icmpY H0 hx 84 (hb hby d3_52) (feq (by decide)).2 (by decide) rfl ?_
  refine G.iloadN H0 hx 85 (hb hby d3_84) rfl rfl ?_
  refine G.iconst H0 hx 86 (4 : Int32) (hb hby d3_85) rfl rfl ?_
  refine G.icmpY H0 hx 124 (hb hby d3_86) (feq (by decide)).2 (by decide) rfl ?_
  refine G.iloadN H0 hx 125 (hb hby d3_124) rfl rfl ?_
  refine G.iconst H0 hx 126 (5 : Int32) (hb hby d3_125) rfl rfl ?_
  refine G.icmpN H0 hx 129 (hb hby d3_126) (teq (by decide)).2 rfl ?_
  refine Wk.newO W0 hx hoZ (wd hw 12 rfl) (wd hw 13 rfl) (wd hw 14 rfl) 132 (hb hby d3_129) rfl (by decide) (by decide) ?_
  intro T101 h101 a101 W101 E101 g101 A101 D101 S101
  have H101 := W101.here; have z101 := E101.1; have gu101 := Nat.le_of_eq g101; have gt101 := Nat.le_of_eq g101.symm; have l101 := ltN A101.lt
  refine G.dup H101 hx 133 (hb hby d3_132) rfl rfl ?_
  refine G.iconst H101 hx 134 (5 : Int32) (hb hby d3_133) rfl rfl ?_
  refine Wk.newP W101 hx (wd hw 8 rfl) 136 (hb hby d3_134) (by decide) 5 (by decide) rfl (by decide) (by decide) (by decide) ?_
  intro T102 h102 a102 k102 W102 E102 g102 V102 S102
  have H102 := W102.here; have z102 := E102.1; have gu102 := Nat.le_of_eq g102; have gt102 := Nat.le_of_eq g102.symm; have l102 := ltN V102.lt
  have V102 : Arv Z h102 a102 k102 .char (5 : Int32) [(.int (0 : Int32)), (.int (0 : Int32)), (.int (0 : Int32)), (.int (0 : Int32)), (.int (0 : Int32))] (.int (0 : Int32)) := V102
  refine G.dup H102 hx 137 (hb hby d3_136) rfl rfl ?_
  refine G.iconst H102 hx 138 (0 : Int32) (hb hby d3_137) rfl rfl ?_
  refine G.aloadN H102 hx 139 (hb hby d3_138) rfl rfl rfl ?_
  refine G.iconst H102 hx 140 (0 : Int32) (hb hby d3_139) rfl rfl ?_
  refine Wk.caload W102 hx ((Vp.ext E101).ext E102) ⟨by decide, by decide⟩ (.int y0) rfl 141 (hb hby d3_140) rfl ?_
  refine Wk.castore W102 hx V102 (Or.inr (by omega)) y0 (nar_c16 hy0.up) 0 rfl ⟨by decide, by decide⟩ (Nat.le_of_ble_eq_true rfl) 142 (hb hby d3_141) rfl ?_
  intro T103 h103 W103 K103 Ch103 V103; have H103 := W103.here; have z103 := K103.1
  have V103 : Arv Z h103 a102 k102 .char (5 : Int32) [(.int y0), (.int (0 : Int32)), (.int (0 : Int32)), (.int (0 : Int32)), (.int (0 : Int32))] (.int (0 : Int32)) := V103
  refine G.dup H103 hx 143 (hb hby d3_142) rfl rfl ?_
  refine G.iconst H103 hx 144 (1 : Int32) (hb hby d3_143) rfl rfl ?_
  refine G.aloadN H103 hx 145 (hb hby d3_144) rfl rfl rfl ?_
  refine G.iconst H103 hx 146 (1 : Int32) (hb hby d3_145) rfl rfl ?_
  refine Wk.caload W103 hx (((Vp.ext E101).ext E102).keep K103 (ninS (neA (by omega)) nin0)) ⟨by decide, by decide⟩ (.int y1) rfl 147 (hb hby d3_146) rfl ?_
  refine Wk.castore W103 hx V103 (Or.inr (by omega)) y1 (nar_c16 hy1.up) 1 rfl ⟨by decide, by decide⟩ (Nat.le_of_ble_eq_true rfl) 148 (hb hby d3_147) rfl ?_
  intro T104 h104 W104 K104 Ch104 V104; have H104 := W104.here; have z104 := K104.1
  have V104 : Arv Z h104 a102 k102 .char (5 : Int32) [(.int y0), (.int y1), (.int (0 : Int32)), (.int (0 : Int32)), (.int (0 : Int32))] (.int (0 : Int32)) := V104
  refine G.dup H104 hx 149 (hb hby d3_148) rfl rfl ?_
  refine G.iconst H104 hx 150 (2 : Int32) (hb hby d3_149) rfl rfl ?_
  refine G.aloadN H104 hx 151 (hb hby d3_150) rfl rfl rfl ?_
  refine G.iconst H104 hx 152 (2 : Int32) (hb hby d3_151) rfl rfl ?_
  refine Wk.caload W104 hx ((((Vp.ext E101).ext E102).keep K103 (ninS (neA (by omega)) nin0)).keep K104 (ninS (neA (by omega)) nin0)) ⟨by decide, by decide⟩ (.int y2) rfl 153 (hb hby d3_152) rfl ?_
  refine Wk.castore W104 hx V104 (Or.inr (by omega)) y2 (nar_c16 hy2.up) 2 rfl ⟨by decide, by decide⟩ (Nat.le_of_ble_eq_true rfl) 154 (hb hby d3_153) rfl ?_
  intro T105 h105 W105 K105 Ch105 V105; have H105 := W105.here; have z105 := K105.1
  have V105 : Arv Z h105 a102 k102 .char (5 : Int32) [(.int y0), (.int y1), (.int y2), (.int (0 : Int32)), (.int (0 : Int32))] (.int (0 : Int32)) := V105
  refine G.dup H105 hx 155 (hb hby d3_154) rfl rfl ?_
  refine G.iconst H105 hx 156 (3 : Int32) (hb hby d3_155) rfl rfl ?_
  refine G.aloadN H105 hx 157 (hb hby d3_156) rfl rfl rfl ?_
  refine G.iconst H105 hx 158 (3 : Int32) (hb hby d3_157) rfl rfl ?_
  refine Wk.caload W105 hx (((((Vp.ext E101).ext E102).keep K103 (ninS (neA (by omega)) nin0)).keep K104 (ninS (neA (by omega)) nin0)).keep K105 (ninS (neA (by omega)) nin0)) ⟨by decide, by decide⟩ (.int y3) rfl 159 (hb hby d3_158) rfl ?_
  refine Wk.castore W105 hx V105 (Or.inr (by omega)) y3 (nar_c16 hy3.up) 3 rfl ⟨by decide, by decide⟩ (Nat.le_of_ble_eq_true rfl) 160 (hb hby d3_159) rfl ?_
  intro T106 h106 W106 K106 Ch106 V106; have H106 := W106.here; have z106 := K106.1
  have V106 : Arv Z h106 a102 k102 .char (5 : Int32) [(.int y0), (.int y1), (.int y2), (.int y3), (.int (0 : Int32))] (.int (0 : Int32)) := V106
  refine G.dup H106 hx 161 (hb hby d3_160) rfl rfl ?_
  refine G.iconst H106 hx 162 (4 : Int32) (hb hby d3_161) rfl rfl ?_
  refine G.aloadN H106 hx 163 (hb hby d3_162) rfl rfl rfl ?_
  refine G.iconst H106 hx 164 (4 : Int32) (hb hby d3_163) rfl rfl ?_
  refine Wk.caload W106 hx ((((((Vp.ext E101).ext E102).keep K103 (ninS (neA (by omega)) nin0)).keep K104 (ninS (neA (by omega)) nin0)).keep K105 (ninS (neA (by omega)) nin0)).keep K106 (ninS (neA (by omega)) nin0)) ⟨by decide, by decide⟩ (.int y4) rfl 165 (hb hby d3_164) rfl ?_
  refine Wk.castore W106 hx V106 (Or.inr (by omega)) y4 (nar_c16 hy4.up) 4 rfl ⟨by decide, by decide⟩ (Nat.le_of_ble_eq_true rfl) 166 (hb hby d3_165) rfl ?_
  intro T107 h107 W107 K107 Ch107 V107; have H107 := W107.here; have z107 := K107.1
  have V107 : Arv Z h107 a102 k102 .char (5 : Int32) [(.int y0), (.int y1), (.int y2), (.int y3), (.int y4)] (.int (0 : Int32)) := V107
  refine Wk.special W107 hx hoZ (y := (⟨"java/lang/String", "<init>", "([C)V"⟩ : MethodName)) rfl (wd hw 15 rfl) (wd hw 16 rfl) (wd hw 17 rfl) (by decide) (Wd := 1) (newS W107.warm (wsNew hw) (wd hw 13 rfl) W107.old (by omega) ((((((A101.ext E102).keep K103).keep K104).keep K105).keep K106).keep K107) (((((((D101 (Or.inr (wd hw 40 rfl)) (ty := (.array .byte)) (by decide)).ext E102).keep K103 (ninS (neA (by omega)) nin0)).keep K104 (ninS (neA (by omega)) nin0)).keep K105 (ninS (neA (by omega)) nin0)).keep K106 (ninS (neA (by omega)) nin0)).keep K107 (ninS (neA (by omega)) nin0)) (((((((D101 (Or.inr (wd hw 38 rfl)) (ty := .byte) (by decide)).ext E102).keep K103 (ninS (neA (by omega)) nin0)).keep K104 (ninS (neA (by omega)) nin0)).keep K105 (ninS (neA (by omega)) nin0)).keep K106 (ninS (neA (by omega)) nin0)).keep K107 (ninS (neA (by omega)) nin0)) (cs := [y0, y1, y2, y3, y4]) V107 hCS hcz 5 rfl rfl (by decide) (by decide) (ala hy0 (ala hy1 (ala hy2 (ala hy3 (ala hy4 (ala0)))))) (by decide) (by decide)) a101 (by rw [hml]; rfl) [(.ref a102)] [(.ref a101)] (lenOf pd12 rfl) rfl rfl (Nat.le_of_eq rfl) 169 (hb hby d3_166) rfl (by decide) (by decide) (hws1 (Or.inr (by omega)) safe0) ?_
  intro v108 T108 h108 W108 K108 Ch108 Q108
  have H108 := W108.here; have z108 := K108.1
  obtain ⟨rfl, Sv108⟩ := Q108
  show Goes p e below (PostN s Z h0 [] (QTx7_5 Z cz pz kp y0 y1 y2 y3 y4 y5 y6 h0) ({ frames := 4, cells := 3, slots := 14, locals := 80 } : Room).cells ({ frames := 4, cells := 3, slots := 14, locals := 80 } : Room).slots) (T108.setTop (mkF m 169 #[.val (.ref pz), .val (.int (5 : Int32))] [(.ref a101)]))
  exact Wk.retA W108 hx (t := (.object "java/lang/String")) rfl rfl hret hlk (hb hby d3_169) (by decide) (by decide) ⟨_, rfl, by omega, Sv108⟩
def QTx7_6 (Z : State) (cz : Int32) (pz : Addr) (kp : ClassId) (y0 : Int32) (y1 : Int32) (y2 : Int32) (y3 : Int32) (y4 : Int32) (y5 : Int32) (y6 : Int32) (h0 : Heap) : Option Value → Heap → Prop := fun v h => ∃ a : Addr, v = some (.ref a) ∧ h0.size ≤ a ∧ SV Z h a [y0, y1, y2, y3, y4, y5]
set_option maxRecDepth 65536 in
set_option maxHeartbeats 40000000 in
theorem rmTx7_6 (l : Launch) (Z : State) (a0 : Array Value) (hw : ∀ d ∈ tables_1, d.before a0 Z = true) (cz : Int32) (pz : Addr) (kp : ClassId) (y0 : Int32) (y1 : Int32) (y2 : Int32) (y3 : Int32) (y4 : Int32) (y5 : Int32) (y6 : Int32) (h0 : Heap) (O : Ext Z.heap h0) (hCS : Sta Z Z.heap "java/lang/String" "COMPACT_STRINGS" "Z" (.int cz)) (hcz : ¬ cz = 0) (Vp : Arv Z h0 pz kp .char 7 [(.int y0), (.int y1), (.int y2), (.int y3), (.int y4), (.int y5), (.int y6)] (.int 0)) (hy0 : C8 y0) (hy1 : C8 y1) (hy2 : C8 y2) (hy3 : C8 y3) (hy4 : C8 y4) (hy5 : C8 y5) :
    CN [] l Z (⟨"com/example/federation/federation/NamesDomainOfPinLaw", "text", "([CI)Ljava/lang/String;"⟩ : MethodName) method_4_code 2 (Option.some (Jvm.ClassFile.FieldType.object "java/lang/String")) ({ frames := 4, cells := 3, slots := 16, locals := 80 } : Room) #[(.ref pz), (.int (6 : Int32))] h0 [] (QTx7_6 Z cz pz kp y0 y1 y2 y3 y4 y5 y6 h0) := by
  refine CN.of_walk (plainFor_of_name pn0) O (fun _ q => nomatch q) ?_
  intro p e s m below meth c T0 W0 hx hby hml hoZ hnm hret hlk
  have H0 := W0.here; have hz0 := W0.zsize
  refine Goes.cast (ef7 m pz (6 : Int32)) ?_
  have lp := ltN Vp.lt
  refine G.iloadN H0 hx 1 (hb hby d3_0) rfl rfl ?_
  refine G.iconst H0 hx 2 (1 : Int32) (hb hby d3_1) rfl rfl ?_
  refine G.icmpY H0 hx 22 (hb hby d3_2) (feq (by decide)).2 (by decide) rfl ?_
  refine G.iloadN H0 hx 23 (hb hby d3_22) rfl rfl ?_
  refine G.iconst H0 hx 24 (2 : Int32) (hb hby d3_23) rfl rfl ?_
  refine G.icmpY H0 hx 50 (hb hby d3_24) (feq (by decide)).2 (by decide) rfl ?_
  refine G.iloadN H0 hx 51 (hb hby d3_50) rfl rfl ?_
  refine G.iconst H0 hx 52 (3 : Int32) (hb hby d3_51) rfl rfl ?_
  refine G.icmpY H0 hx 84 (hb hby d3_52) (feq (by decide)).2 (by decide) rfl ?_
  refine G.iloadN H0 hx 85 (hb hby d3_84) rfl rfl ?_
  refine G.iconst H0 hx 86 (4 : Int32) (hb hby d3_85) rfl rfl ?_
  refine G.icmpY H0 hx 124 (hb hby d3_86) (feq (by decide)).2 (by decide) rfl ?_
  refine G.iloadN H0 hx 125 (hb hby d3_124) rfl rfl ?_
  refine G.iconst H0 hx 126 (5 : Int32) (hb hby d3_125) rfl rfl ?_
  refine G.icmpY H0 hx 170 (hb hby d3_126) (feq (by decide)).2 (by decide) rfl ?_
  refine G.iloadN H0 hx 171 (hb hby d3_170) rfl rfl ?_
  refine G.bipush H0 hx 173 (6 : Int32) (hb hby d3_171) rfl rfl ?_
  refine G.icmpN H0 hx 176 (hb hby d3_173) (teq (by decide)).2 rfl ?_
  refine Wk.newO W0 hx hoZ (wd hw 12 rfl) (wd hw 13 rfl) (wd hw 14 rfl) 179 (hb hby d3_176) rfl (by decide) (by decide) ?_
  intro T101 h101 a101 W101 E101 g101 A101 D101 S101
  have H101 := W101.here; have z101 := E101.1; have gu101 := Nat.le_of_eq g101; have gt101 := Nat.le_of_eq g101.symm; have l101 := ltN A101.lt
  refine G.dup H101 hx 180 (hb hby d3_179) rfl rfl ?_
  refine G.bipush H101 hx 182 (6 : Int32) (hb hby d3_180) rfl rfl ?_
  refine Wk.newP W101 hx (wd hw 8 rfl) 184 (hb hby d3_182) (by decide) 6 (by decide) rfl (by decide) (by decide) (by decide) ?_
  intro T102 h102 a102 k102 W102 E102 g102 V102 S102
  have H102 := W102.here; have z102 := E102.1; have gu102 := Nat.le_of_eq g102; have gt102 := Nat.le_of_eq g102.symm; have l102 := ltN V102.lt
  have V102 : Arv Z h102 a102 k102 .char (6 : Int32) [(.int (0 : Int32)), (.int (0 : Int32)), (.int (0 : Int32)), (.int (0 : Int32)), (.int (0 : Int32)), (.int (0 : Int32))] (.int (0 : Int32)) := V102
  refine G.dup H102 hx 185 (hb hby d3_184) rfl rfl ?_
  refine G.iconst H102 hx 186 (0 : Int32) (hb hby d3_185) rfl rfl ?_
  refine G.aloadN H102 hx 187 (hb hby d3_186) rfl rfl rfl ?_
  refine G.iconst H102 hx 188 (0 : Int32) (hb hby d3_187) rfl rfl ?_
  refine Wk.caload W102 hx ((Vp.ext E101).ext E102) ⟨by decide, by decide⟩ (.int y0) rfl 189 (hb hby d3_188) rfl ?_
  refine Wk.castore W102 hx V102 (Or.inr (by omega)) y0 (nar_c16 hy0.up) 0 rfl ⟨by decide, by decide⟩ (Nat.le_of_ble_eq_true rfl) 190 (hb hby d3_189) rfl ?_
  intro T103 h103 W103 K103 Ch103 V103; have H103 := W103.here; have z103 := K103.1
  have V103 : Arv Z h103 a102 k102 .char (6 : Int32) [(.int y0), (.int (0 : Int32)), (.int (0 : Int32)), (.int (0 : Int32)), (.int (0 : Int32)), (.int (0 : Int32))] (.int (0 : Int32)) := V103
  refine G.dup H103 hx 191 (hb hby d3_190) rfl rfl ?_
  refine G.iconst H103 hx 192 (1 : Int32) (hb hby d3_191) rfl rfl ?_
  refine G.aloadN H103 hx 193 (hb hby d3_192) rfl rfl rfl ?_
  refine G.iconst H103 hx 194 (1 : Int32) (hb hby d3_193) rfl rfl ?_
  refine Wk.caload W103 hx (((Vp.ext E101).ext E102).keep K103 (ninS (neA (by omega)) nin0)) ⟨by decide, by decide⟩ (.int y1) rfl 195 (hb hby d3_194) rfl ?_
  refine Wk.castore W103 hx V103 (Or.inr (by omega)) y1 (nar_c16 hy1.up) 1 rfl ⟨by decide, by decide⟩ (Nat.le_of_ble_eq_true rfl) 196 (hb hby d3_195) rfl ?_
  intro T104 h104 W104 K104 Ch104 V104; have H104 := W104.here; have z104 := K104.1
  have V104 : Arv Z h104 a102 k102 .char (6 : Int32) [(.int y0), (.int y1), (.int (0 : Int32)), (.int (0 : Int32)), (.int (0 : Int32)), (.int (0 : Int32))] (.int (0 : Int32)) := V104
  refine G.dup H104 hx 197 (hb hby d3_196) rfl rfl ?_
  refine G.iconst H104 hx 198 (2 : Int32) (hb hby d3_197) rfl rfl ?_
  refine G.aloadN H104 hx 199 (hb hby d3_198) rfl rfl rfl ?_
  refine G.iconst H104 hx 200 (2 : Int32) (hb hby d3_199) rfl rfl ?_
  refine Wk.caload W104 hx ((((Vp.ext E101).ext E102).keep K103 (ninS (neA (by omega)) nin0)).keep K104 (ninS (neA (by omega)) nin0)) ⟨by decide, by decide⟩ (.int y2) rfl 201 (hb hby d3_200) rfl ?_
  refine Wk.castore W104 hx V104 (Or.inr (by omega)) y2 (nar_c16 hy2.up) 2 rfl ⟨by decide, by decide⟩ (Nat.le_of_ble_eq_true rfl) 202 (hb hby d3_201) rfl ?_
  intro T105 h105 W105 K105 Ch105 V105; have H105 := W105.here; have z105 := K105.1
  have V105 : Arv Z h105 a102 k102 .char (6 : Int32) [(.int y0), (.int y1), (.int y2), (.int (0 : Int32)), (.int (0 : Int32)), (.int (0 : Int32))] (.int (0 : Int32)) := V105
  refine G.dup H105 hx 203 (hb hby d3_202) rfl rfl ?_
  refine G.iconst H105 hx 204 (3 : Int32) (hb hby d3_203) rfl rfl ?_
  refine G.aloadN H105 hx 205 (hb hby d3_204) rfl rfl rfl ?_
  refine G.iconst H105 hx 206 (3 : Int32) (hb hby d3_205) rfl rfl ?_
  refine Wk.caload W105 hx (((((Vp.ext E101).ext E102).keep K103 (ninS (neA (by omega)) nin0)).keep K104 (ninS (neA (by omega)) nin0)).keep K105 (ninS (neA (by omega)) nin0)) ⟨by decide, by decide⟩ (.int y3) rfl 207 (hb hby d3_206) rfl ?_
  refine Wk.castore W105 hx V105 (Or.inr (by omega)) y3 (nar_c16 hy3.up) 3 rfl ⟨by decide, by decide⟩ (Nat.le_of_ble_eq_true rfl) 208 (hb hby d3_207) rfl ?_
  intro T106 h106 W106 K106 Ch106 V106; have H106 := W106.here; have z106 := K106.1
  have V106 : Arv Z h106 a102 k102 .char (6 : Int32) [(.int y0), (.int y1), (.int y2), (.int y3), (.int (0 : Int32)), (.int (0 : Int32))] (.int (0 : Int32)) := V106
  refine G.dup H106 hx 209 (hb hby d3_208) rfl rfl ?_
  refine G.iconst H106 hx 210 (4 : Int32) (hb hby d3_209) rfl rfl ?_
  refine G.aloadN H106 hx 211 (hb hby d3_210) rfl rfl rfl ?_
  refine G.iconst H106 hx 212 (4 : Int32) (hb hby d3_211) rfl rfl ?_
  refine Wk.caload W106 hx ((((((Vp.ext E101).ext E102).keep K103 (ninS (neA (by omega)) nin0)).keep K104 (ninS (neA (by omega)) nin0)).keep K105 (ninS (neA (by omega)) nin0)).keep K106 (ninS (neA (by omega)) nin0)) ⟨by decide, by decide⟩ (.int y4) rfl 213 (hb hby d3_212) rfl ?_
  refine Wk.castore W106 hx V106 (Or.inr (by omega)) y4 (nar_c16 hy4.up) 4 rfl ⟨by decide, by decide⟩ (Nat.le_of_ble_eq_true rfl) 214 (hb hby d3_213) rfl ?_
  intro T107 h107 W107 K107 Ch107 V107; have H107 := W107.here; have z107 := K107.1
  have V107 : Arv Z h107 a102 k102 .char (6 : Int32) [(.int y0), (.int y1), (.int y2), (.int y3), (.int y4), (.int (0 : Int32))] (.int (0 : Int32)) := V107
  refine G.dup H107 hx 215 (hb hby d3_214) rfl rfl ?_
  refine G.iconst H107 hx 216 (5 : Int32) (hb hby d3_215) rfl rfl ?_
  refine G.aloadN H107 hx 217 (hb hby d3_216) rfl rfl rfl ?_
  refine G.iconst H107 hx 218 (5 : Int32) (hb hby d3_217) rfl rfl ?_
  refine Wk.caload W107 hx (((((((Vp.ext E101).ext E102).keep K103 (ninS (neA (by omega)) nin0)).keep K104 (ninS (neA (by omega)) nin0)).keep K105 (ninS (neA (by omega)) nin0)).keep K106 (ninS (neA (by omega)) nin0)).keep K107 (ninS (neA (by omega)) nin0)) ⟨by decide, by decide⟩ (.int y5) rfl 219 (hb hby d3_218) rfl ?_
  refine Wk.castore W107 hx V107 (Or.inr (by omega)) y5 (nar_c16 hy5.up) 5 rfl ⟨by decide, by decide⟩ (Nat.le_of_ble_eq_true rfl) 220 (hb hby d3_219) rfl ?_
  intro T108 h108 W108 K108 Ch108 V108; have H108 := W108.here; have z108 := K108.1
  have V108 : Arv Z h108 a102 k102 .char (6 : Int32) [(.int y0), (.int y1), (.int y2), (.int y3), (.int y4), (.int y5)] (.int (0 : Int32)) := V108
  refine Wk.special W108 hx hoZ (y := (⟨"java/lang/String", "<init>", "([C)V"⟩ : MethodName)) rfl (wd hw 15 rfl) (wd hw 16 rfl) (wd hw 17 rfl) (by decide) (Wd := 1) (newS W108.warm (wsNew hw) (wd hw 13 rfl) W108.old (by omega) (((((((A101.ext E102).keep K103).keep K104).keep K105).keep K106).keep K107).keep K108) ((((((((D101 (Or.inr (wd hw 40 rfl)) (ty := (.array .byte)) (by decide)).ext E102).keep K103 (ninS (neA (by omega)) nin0)).keep K104 (ninS (neA (by omega)) nin0)).keep K105 (ninS (neA (by omega)) nin0)).keep K106 (ninS (neA (by omega)) nin0)).keep K107 (ninS (neA (by omega)) nin0)).keep K108 (ninS (neA (by omega)) nin0)) ((((((((D101 (Or.inr (wd hw 38 rfl)) (ty := .byte) (by decide)).ext E102).keep K103 (ninS (neA (by omega)) nin0)).keep K104 (ninS (neA (by omega)) nin0)).keep K105 (ninS (neA (by omega)) nin0)).keep K106 (ninS (neA (by omega)) nin0)).keep K107 (ninS (neA (by omega)) nin0)).keep K108 (ninS (neA (by omega)) nin0)) (cs := [y0, y1, y2, y3, y4, y5]) V108 hCS hcz 6 rfl rfl (by decide) (by decide) (ala hy0 (ala hy1 (ala hy2 (ala hy3 (ala hy4 (ala hy5 (ala0))))))) (by decide) (by decide)) a101 (by rw [hml]; rfl) [(.ref a102)] [(.ref a101)] (lenOf pd12 rfl) rfl rfl (Nat.le_of_eq rfl) 223 (hb hby d3_220) rfl (by decide) (by decide) (hws1 (Or.inr (by omega)) safe0) ?_
  intro v109 T109 h109 W109 K109 Ch109 Q109
  have H109 := W109.here; have z109 := K109.1
  obtain ⟨rfl, Sv109⟩ := Q109
  show Goes p e below (PostN s Z h0 [] (QTx7_6 Z cz pz kp y0 y1 y2 y3 y4 y5 y6 h0) ({ frames := 4, cells := 3, slots := 16, locals := 80 } : Room).cells ({ frames := 4, cells := 3, slots := 16, locals := 80 } : Room).slots) (T109.setTop (mkF m 223 #[.val (.ref pz), .val (.int (6 : Int32))] [(.ref a101)]))
  exact Wk.retA W109 hx (t := (.object "java/lang/String")) rfl rfl hret hlk (hb hby d3_223) (by decide) (by decide) ⟨_, rfl, by omega, Sv109⟩
def QTx7_7 (Z : State) (cz : Int32) (pz : Addr) (kp : ClassId) (y0 : Int32) (y1 : Int32) (y2 : Int32) (y3 : Int32) (y4 : Int32) (y5 : Int32) (y6 : Int32) (h0 : Heap) : Option Value → Heap → Prop := fun v h => ∃ a : Addr, v = some (.ref a) ∧ h0.size ≤ a ∧ SV Z h a [y0, y1, y2, y3, y4, y5, y6]
set_option maxRecDepth 65536 in
set_option maxHeartbeats 40000000 in
theorem rmTx7_7 (l : Launch) (Z : State) (a0 : Array Value) (hw : ∀ d ∈ tables_1, d.before a0 Z = true) (cz : Int32) (pz : Addr) (kp : ClassId) (y0 : Int32) (y1 : Int32) (y2 : Int32) (y3 : Int32) (y4 : Int32) (y5 : Int32) (y6 : Int32) (h0 : Heap) (O : Ext Z.heap h0) (hCS : Sta Z Z.heap "java/lang/String" "COMPACT_STRINGS" "Z" (.int cz)) (hcz : ¬ cz = 0) (Vp : Arv Z h0 pz kp .char 7 [(.int y0), (.int y1), (.int y2), (.int y3), (.int y4), (.int y5), (.int y6)] (.int 0)) (hy0 : C8 y0) (hy1 : C8 y1) (hy2 : C8 y2) (hy3 : C8 y3) (hy4 : C8 y4) (hy5 : C8 y5) (hy6 : C8 y6) :
    CN [] l Z (⟨"com/example/federation/federation/NamesDomainOfPinLaw", "text", "([CI)Ljava/lang/String;"⟩ : MethodName) method_4_code 2 (Option.some (Jvm.ClassFile.FieldType.object "java/lang/String")) ({ frames := 4, cells := 3, slots := 18, locals := 80 } : Room) #[(.ref pz), (.int (7 : Int32))] h0 [] (QTx7_7 Z cz pz kp y0 y1 y2 y3 y4 y5 y6 h0) := by
  refine CN.of_walk (plainFor_of_name pn0) O (fun _ q => nomatch q) ?_
  intro p e s m below meth c T0 W0 hx hby hml hoZ hnm hret hlk
  have H0 := W0.here; have hz0 := W0.zsize
  refine Goes.cast (ef7 m pz (7 : Int32)) ?_
  have lp := ltN Vp.lt
  refine G.iloadN H0 hx 1 (hb hby d3_0) rfl rfl ?_
  refine G.iconst H0 hx 2 (1 : Int32) (hb hby d3_1) rfl rfl ?_
  refine G.icmpY H0 hx 22 (hb hby d3_2) (feq (by decide)).2 (by decide) rfl ?_
  refine G.iloadN H0 hx 23 (hb hby d3_22) rfl rfl ?_
  refine G.iconst H0 hx 24 (2 : Int32) (hb hby d3_23) rfl rfl ?_
  refine G.icmpY H0 hx 50 (hb hby d3_24) (feq (by decide)).2 (by decide) rfl ?_
  refine G.iloadN H0 hx 51 (hb hby d3_50) rfl rfl ?_
  refine G.iconst H0 hx 52 (3 : Int32) (hb hby d3_51) rfl rfl ?_
  refine G.icmpY H0 hx 84 (hb hby d3_52) (feq (by decide)).2 (by decide) rfl ?_
  refine G.iloadN H0 hx 85 (hb hby d3_84) rfl rfl ?_
  refine G.iconst H0 hx 86 (4 : Int32) (hb hby d3_85) rfl rfl ?_
  refine G.icmpY H0 hx 124 (hb hby d3_86) (feq (by decide)).2 (by decide) rfl ?_
  refine G.iloadN H0 hx 125 (hb hby d3_124) rfl rfl ?_
  refine G.iconst H0 hx 126 (5 : Int32) (hb hby d3_125) rfl rfl ?_
  refine G.icmpY H0 hx 170 (hb hby d3_126) (feq (by decide)).2 (by decide) rfl ?_
  refine G.iloadN H0 hx 171 (hb hby d3_170) rfl rfl ?_
  refine G.bipush H0 hx 173 (6 : Int32) (hb hby d3_171) rfl rfl ?_
  refine G.icmpY H0 hx 224 (hb hby d3_173) (feq (by decide)).2 (by decide) rfl ?_
  refine Wk.newO W0 hx hoZ (wd hw 12 rfl) (wd hw 13 rfl) (wd hw 14 rfl) 227 (hb hby d3_224) rfl (by decide) (by decide) ?_
  intro T101 h101 a101 W101 E101 g101 A101 D101 S101
  have H101 := W101.here; have z101 := E101.1; have gu101 := Nat.le_of_eq g101; have gt101 := Nat.le_of_eq g101.symm; have l101 := ltN A101.lt
  refine G.dup H101 hx 228 (hb hby d3_227) rfl rfl ?_
  refine G.bipush H101 hx 230 (7 : Int32) (hb hby d3_228) rfl rfl ?_
  refine Wk.newP W101 hx (wd hw 8 rfl) 232 (hb hby d3_230) (by decide) 7 (by decide) rfl (by decide) (by decide) (by decide) ?_
  intro T102 h102 a102 k102 W102 E102 g102 V102 S102
  have H102 := W102.here; have z102 := E102.1; have gu102 := Nat.le_of_eq g102; have gt102 := Nat.le_of_eq g102.symm; have l102 := ltN V102.lt
  have V102 : Arv Z h102 a102 k102 .char (7 : Int32) [(.int (0 : Int32)), (.int (0 : Int32)), (.int (0 : Int32)), (.int (0 : Int32)), (.int (0 : Int32)), (.int (0 : Int32)), (.int (0 : Int32))] (.int (0 : Int32)) := V102
  refine G.dup H102 hx 233 (hb hby d3_232) rfl rfl ?_
  refine G.iconst H102 hx 234 (0 : Int32) (hb hby d3_233) rfl rfl ?_
  refine G.aloadN H102 hx 235 (hb hby d3_234) rfl rfl rfl ?_
  refine G.iconst H102 hx 236 (0 : Int32) (hb hby d3_235) rfl rfl ?_
  refine Wk.caload W102 hx ((Vp.ext E101).ext E102) ⟨by decide, by decide⟩ (.int y0) rfl 237 (hb hby d3_236) rfl ?_
  refine Wk.castore W102 hx V102 (Or.inr (by omega)) y0 (nar_c16 hy0.up) 0 rfl ⟨by decide, by decide⟩ (Nat.le_of_ble_eq_true rfl) 238 (hb hby d3_237) rfl ?_
  intro T103 h103 W103 K103 Ch103 V103; have H103 := W103.here; have z103 := K103.1
  have V103 : Arv Z h103 a102 k102 .char (7 : Int32) [(.int y0), (.int (0 : Int32)), (.int (0 : Int32)), (.int (0 : Int32)), (.int (0 : Int32)), (.int (0 : Int32)), (.int (0 : Int32))] (.int (0 : Int32)) := V103
  refine G.dup H103 hx 239 (hb hby d3_238) rfl rfl ?_
  refine G.iconst H103 hx 240 (1 : Int32) (hb hby d3_239) rfl rfl ?_
  refine G.aloadN H103 hx 241 (hb hby d3_240) rfl rfl rfl ?_
  refine G.iconst H103 hx 242 (1 : Int32) (hb hby d3_241) rfl rfl ?_
  refine Wk.caload W103 hx (((Vp.ext E101).ext E102).keep K103 (ninS (neA (by omega)) nin0)) ⟨by decide, by decide⟩ (.int y1) rfl 243 (hb hby d3_242) rfl ?_
  refine Wk.castore W103 hx V103 (Or.inr (by omega)) y1 (nar_c16 hy1.up) 1 rfl ⟨by decide, by decide⟩ (Nat.le_of_ble_eq_true rfl) 244 (hb hby d3_243) rfl ?_
  intro T104 h104 W104 K104 Ch104 V104; have H104 := W104.here; have z104 := K104.1
  have V104 : Arv Z h104 a102 k102 .char (7 : Int32) [(.int y0), (.int y1), (.int (0 : Int32)), (.int (0 : Int32)), (.int (0 : Int32)), (.int (0 : Int32)), (.int (0 : Int32))] (.int (0 : Int32)) := V104
  refine G.dup H104 hx 245 (hb hby d3_244) rfl rfl ?_
  refine G.iconst H104 hx 246 (2 : Int32) (hb hby d3_245) rfl rfl ?_
  refine G.aloadN H104 hx 247 (hb hby d3_246) rfl rfl rfl ?_
  refine G.iconst H104 hx 248 (2 : Int32) (hb hby d3_247) rfl rfl ?_
  refine Wk.caload W104 hx ((((Vp.ext E101).ext E102).keep K103 (ninS (neA (by omega)) nin0)).keep K104 (ninS (neA (by omega)) nin0)) ⟨by decide, by decide⟩ (.int y2) rfl 249 (hb hby d3_248) rfl ?_
  refine Wk.castore W104 hx V104 (Or.inr (by omega)) y2 (nar_c16 hy2.up) 2 rfl ⟨by decide, by decide⟩ (Nat.le_of_ble_eq_true rfl) 250 (hb hby d3_249) rfl ?_
  intro T105 h105 W105 K105 Ch105 V105; have H105 := W105.here; have z105 := K105.1
  have V105 : Arv Z h105 a102 k102 .char (7 : Int32) [(.int y0), (.int y1), (.int y2), (.int (0 : Int32)), (.int (0 : Int32)), (.int (0 : Int32)), (.int (0 : Int32))] (.int (0 : Int32)) := V105
  refine G.dup H105 hx 251 (hb hby d3_250) rfl rfl ?_
  refine G.iconst H105 hx 252 (3 : Int32) (hb hby d3_251) rfl rfl ?_
  refine G.aloadN H105 hx 253 (hb hby d3_252) rfl rfl rfl ?_
  refine G.iconst H105 hx 254 (3 : Int32) (hb hby d3_253) rfl rfl ?_
  refine Wk.caload W105 hx (((((Vp.ext E101).ext E102).keep K103 (ninS (neA (by omega)) nin0)).keep K104 (ninS (neA (by omega)) nin0)).keep K105 (ninS (neA (by omega)) nin0)) ⟨by decide, by decide⟩ (.int y3) rfl 255 (hb hby d3_254) rfl ?_
  refine Wk.castore W105 hx V105 (Or.inr (by omega)) y3 (nar_c16 hy3.up) 3 rfl ⟨by decide, by decide⟩ (Nat.le_of_ble_eq_true rfl) 256 (hb hby d3_255) rfl ?_
  intro T106 h106 W106 K106 Ch106 V106; have H106 := W106.here; have z106 := K106.1
  have V106 : Arv Z h106 a102 k102 .char (7 : Int32) [(.int y0), (.int y1), (.int y2), (.int y3), (.int (0 : Int32)), (.int (0 : Int32)), (.int (0 : Int32))] (.int (0 : Int32)) := V106
  refine G.dup H106 hx 257 (hb hby d3_256) rfl rfl ?_
  refine G.iconst H106 hx 258 (4 : Int32) (hb hby d3_257) rfl rfl ?_
  refine G.aloadN H106 hx 259 (hb hby d3_258) rfl rfl rfl ?_
  refine G.iconst H106 hx 260 (4 : Int32) (hb hby d3_259) rfl rfl ?_
  refine Wk.caload W106 hx ((((((Vp.ext E101).ext E102).keep K103 (ninS (neA (by omega)) nin0)).keep K104 (ninS (neA (by omega)) nin0)).keep K105 (ninS (neA (by omega)) nin0)).keep K106 (ninS (neA (by omega)) nin0)) ⟨by decide, by decide⟩ (.int y4) rfl 261 (hb hby d3_260) rfl ?_
  refine Wk.castore W106 hx V106 (Or.inr (by omega)) y4 (nar_c16 hy4.up) 4 rfl ⟨by decide, by decide⟩ (Nat.le_of_ble_eq_true rfl) 262 (hb hby d3_261) rfl ?_
  intro T107 h107 W107 K107 Ch107 V107; have H107 := W107.here; have z107 := K107.1
  have V107 : Arv Z h107 a102 k102 .char (7 : Int32) [(.int y0), (.int y1), (.int y2), (.int y3), (.int y4), (.int (0 : Int32)), (.int (0 : Int32))] (.int (0 : Int32)) := V107
  refine G.dup H107 hx 263 (hb hby d3_262) rfl rfl ?_
  refine G.iconst H107 hx 264 (5 : Int32) (hb hby d3_263) rfl rfl ?_
  refine G.aloadN H107 hx 265 (hb hby d3_264) rfl rfl rfl ?_
  refine G.iconst H107 hx 266 (5 : Int32) (hb hby d3_265) rfl rfl ?_
  refine Wk.caload W107 hx (((((((Vp.ext E101).ext E102).keep K103 (ninS (neA (by omega)) nin0)).keep K104 (ninS (neA (by omega)) nin0)).keep K105 (ninS (neA (by omega)) nin0)).keep K106 (ninS (neA (by omega)) nin0)).keep K107 (ninS (neA (by omega)) nin0)) ⟨by decide, by decide⟩ (.int y5) rfl 267 (hb hby d3_266) rfl ?_
  refine Wk.castore W107 hx V107 (Or.inr (by omega)) y5 (nar_c16 hy5.up) 5 rfl ⟨by decide, by decide⟩ (Nat.le_of_ble_eq_true rfl) 268 (hb hby d3_267) rfl ?_
  intro T108 h108 W108 K108 Ch108 V108; have H108 := W108.here; have z108 := K108.1
  have V108 : Arv Z h108 a102 k102 .char (7 : Int32) [(.int y0), (.int y1), (.int y2), (.int y3), (.int y4), (.int y5), (.int (0 : Int32))] (.int (0 : Int32)) := V108
  refine G.dup H108 hx 269 (hb hby d3_268) rfl rfl ?_
  refine G.bipush H108 hx 271 (6 : Int32) (hb hby d3_269) rfl rfl ?_
  refine G.aloadN H108 hx 272 (hb hby d3_271) rfl rfl rfl ?_
  refine G.bipush H108 hx 274 (6 : Int32) (hb hby d3_272) rfl rfl ?_
  refine Wk.caload W108 hx ((((((((Vp.ext E101).ext E102).keep K103 (ninS (neA (by omega)) nin0)).keep K104 (ninS (neA (by omega)) nin0)).keep K105 (ninS (neA (by omega)) nin0)).keep K106 (ninS (neA (by omega)) nin0)).keep K107 (ninS (neA (by omega)) nin0)).keep K108 (ninS (neA (by omega)) nin0)) ⟨by decide, by decide⟩ (.int y6) rfl 275 (hb hby d3_274) rfl ?_
  refine Wk.castore W108 hx V108 (Or.inr (by omega)) y6 (nar_c16 hy6.up) 6 rfl ⟨by decide, by decide⟩ (Nat.le_of_ble_eq_true rfl) 276 (hb hby d3_275) rfl ?_
  intro T109 h109 W109 K109 Ch109 V109; have H109 := W109.here; have z109 := K109.1
  have V109 : Arv Z h109 a102 k102 .char (7 : Int32) [(.int y0), (.int y1), (.int y2), (.int y3), (.int y4), (.int y5), (.int y6)] (.int (0 : Int32)) := V109
  refine Wk.special W109 hx hoZ (y := (⟨"java/lang/String", "<init>", "([C)V"⟩ : MethodName)) rfl (wd hw 15 rfl) (wd hw 16 rfl) (wd hw 17 rfl) (by decide) (Wd := 1) (newS W109.warm (wsNew hw) (wd hw 13 rfl) W109.old (by omega) ((((((((A101.ext E102).keep K103).keep K104).keep K105).keep K106).keep K107).keep K108).keep K109) (((((((((D101 (Or.inr (wd hw 40 rfl)) (ty := (.array .byte)) (by decide)).ext E102).keep K103 (ninS (neA (by omega)) nin0)).keep K104 (ninS (neA (by omega)) nin0)).keep K105 (ninS (neA (by omega)) nin0)).keep K106 (ninS (neA (by omega)) nin0)).keep K107 (ninS (neA (by omega)) nin0)).keep K108 (ninS (neA (by omega)) nin0)).keep K109 (ninS (neA (by omega)) nin0)) (((((((((D101 (Or.inr (wd hw 38 rfl)) (ty := .byte) (by decide)).ext E102).keep K103 (ninS (neA (by omega)) nin0)).keep K104 (ninS (neA (by omega)) nin0)).keep K105 (ninS (neA (by omega)) nin0)).keep K106 (ninS (neA (by omega)) nin0)).keep K107 (ninS (neA (by omega)) nin0)).keep K108 (ninS (neA (by omega)) nin0)).keep K109 (ninS (neA (by omega)) nin0)) (cs := [y0, y1, y2, y3, y4, y5, y6]) V109 hCS hcz 7 rfl rfl (by decide) (by decide) (ala hy0 (ala hy1 (ala hy2 (ala hy3 (ala hy4 (ala hy5 (ala hy6 (ala0)))))))) (by decide) (by decide)) a101 (by rw [hml]; rfl) [(.ref a102)] [(.ref a101)] (lenOf pd12 rfl) rfl rfl (Nat.le_of_eq rfl) 279 (hb hby d3_276) rfl (by decide) (by decide) (hws1 (Or.inr (by omega)) safe0) ?_
  intro v110 T110 h110 W110 K110 Ch110 Q110
  have H110 := W110.here; have z110 := K110.1
  obtain ⟨rfl, Sv110⟩ := Q110
  show Goes p e below (PostN s Z h0 [] (QTx7_7 Z cz pz kp y0 y1 y2 y3 y4 y5 y6 h0) ({ frames := 4, cells := 3, slots := 18, locals := 80 } : Room).cells ({ frames := 4, cells := 3, slots := 18, locals := 80 } : Room).slots) (T110.setTop (mkF m 279 #[.val (.ref pz), .val (.int (7 : Int32))] [(.ref a101)]))
  exact Wk.retA W110 hx (t := (.object "java/lang/String")) rfl rfl hret hlk (hb hby d3_279) (by decide) (by decide) ⟨_, rfl, by omega, Sv110⟩
def QTx4_1 (Z : State) (cz : Int32) (pz : Addr) (kp : ClassId) (y0 : Int32) (y1 : Int32) (y2 : Int32) (y3 : Int32) (h0 : Heap) : Option Value → Heap → Prop := fun v h => ∃ a : Addr, v = some (.ref a) ∧ h0.size ≤ a ∧ SV Z h a [y0]
set_option maxRecDepth 65536 in
set_option maxHeartbeats 40000000 in
theorem rmTx4_1 (l : Launch) (Z : State) (a0 : Array Value) (hw : ∀ d ∈ tables_1, d.before a0 Z = true) (cz : Int32) (pz : Addr) (kp : ClassId) (y0 : Int32) (y1 : Int32) (y2 : Int32) (y3 : Int32) (h0 : Heap) (O : Ext Z.heap h0) (hCS : Sta Z Z.heap "java/lang/String" "COMPACT_STRINGS" "Z" (.int cz)) (hcz : ¬ cz = 0) (Vp : Arv Z h0 pz kp .char 4 [(.int y0), (.int y1), (.int y2), (.int y3)] (.int 0)) (hy0 : C8 y0) :
    CN [] l Z (⟨"com/example/federation/federation/NamesDomainOfPinLaw", "text", "([CI)Ljava/lang/String;"⟩ : MethodName) method_4_code 2 (Option.some (Jvm.ClassFile.FieldType.object "java/lang/String")) ({ frames := 4, cells := 3, slots := 6, locals := 80 } : Room) #[(.ref pz), (.int (1 : Int32))] h0 [] (QTx4_1 Z cz pz kp y0 y1 y2 y3 h0) := by
  refine CN.of_walk (plainFor_of_name pn0) O (fun _ q => nomatch q) ?_
  intro p e s m below meth c T0 W0 hx hby hml hoZ hnm hret hlk
  have H0 := W0.here; have hz0 := W0.zsize
  refine Goes.cast (ef7 m pz (1 : Int32)) ?_
  have lp := ltN Vp.lt
  refine G.iloadN H0 hx 1 (hb hby d3_0) rfl rfl ?_
  refine G.iconst H0 hx 2 (1 : Int32) (hb hby d3_1) rfl rfl ?_
  refine G.icmpN H0 hx 5 (hb hby d3_2) (teq (by decide)).2 rfl ?_
  refine Wk.newO W0 hx hoZ (wd hw 12 rfl) (wd hw 13 rfl) (wd hw 14 rfl) 8 (hb hby d3_5) rfl (by decide) (by decide) ?_
  intro T101 h101 a101 W101 E101 g101 A101 D101 S101
  have H101 := W101.here; have z101 := E101.1; have gu101 := Nat.le_of_eq g101; have gt101 := Nat.le_of_eq g101.symm; have l101 := ltN A101.lt
  refine G.dup H101 hx 9 (hb hby d3_8) rfl rfl ?_
  refine G.iconst H101 hx 10 (1 : Int32) (hb hby d3_9) rfl rfl ?_
  refine Wk.newP W101 hx (wd hw 8 rfl) 12 (hb hby d3_10) (by decide) 1 (by decide) rfl (by decide) (by decide) (by decide) ?_
  intro T102 h102 a102 k102 W102 E102 g102 V102 S102
  have H102 := W102.here; have z102 := E102.1; have gu102 := Nat.le_of_eq g102; have gt102 := Nat.le_of_eq g102.symm; have l102 := ltN V102.lt
  have V102 : Arv Z h102 a102 k102 .char (1 : Int32) [(.int (0 : Int32))] (.int (0 : Int32)) := V102
  refine G.dup H102 hx 13 (hb hby d3_12) rfl rfl ?_
  refine G.iconst H102 hx 14 (0 : Int32) (hb hby d3_13) rfl rfl ?_
  refine G.aloadN H102 hx 15 (hb hby d3_14) rfl rfl rfl ?_
  refine G.iconst H102 hx 16 (0 : Int32) (hb hby d3_15) rfl rfl ?_
  refine Wk.caload W102 hx ((Vp.ext E101).ext E102) ⟨by decide, by decide⟩ (.int y0) rfl 17 (hb hby d3_16) rfl ?_
  refine Wk.castore W102 hx V102 (Or.inr (by omega)) y0 (nar_c16 hy0.up) 0 rfl ⟨by decide, by decide⟩ (Nat.le_of_ble_eq_true rfl) 18 (hb hby d3_17) rfl ?_
  intro T103 h103 W103 K103 Ch103 V103; have H103 := W103.here; have z103 := K103.1
  have V103 : Arv Z h103 a102 k102 .char (1 : Int32) [(.int y0)] (.int (0 : Int32)) := V103
  refine Wk.special W103 hx hoZ (y := (⟨"java/lang/String", "<init>", "([C)V"⟩ : MethodName)) rfl (wd hw 15 rfl) (wd hw 16 rfl) (wd hw 17 rfl) (by decide) (Wd := 1) (newS W103.warm (wsNew hw) (wd hw 13 rfl) W103.old (by omega) ((A101.ext E102).keep K103) (((D101 (Or.inr (wd hw 40 rfl)) (ty := (.array .byte)) (by decide)).ext E102).keep K103 (ninS (neA (by omega)) nin0)) (((D101 (Or.inr (wd hw 38 rfl)) (ty := .byte) (by decide)).ext E102).keep K103 (ninS (neA (by omega)) nin0)) (cs := [y0]) V103 hCS hcz 1 rfl rfl (by decide) (by decide) (ala hy0 (ala0)) (by decide) (by decide)) a101 (by rw [hml]; rfl) [(.ref a102)] [(.ref a101)] (lenOf pd12 rfl) rfl rfl (Nat.le_of_eq rfl) 21 (hb hby d3_18) rfl (by decide) (by decide) (hws1 (Or.inr (by omega)) safe0) ?_
  intro v104 T104 h104 W104 K104 Ch104 Q104
  have H104 := W104.here; have z104 := K104.1
  obtain ⟨rfl, Sv104⟩ := Q104
  show Goes p e below (PostN s Z h0 [] (QTx4_1 Z cz pz kp y0 y1 y2 y3 h0) ({ frames := 4, cells := 3, slots := 6, locals := 80 } : Room).cells ({ frames := 4, cells := 3, slots := 6, locals := 80 } : Room).slots) (T104.setTop (mkF m 21 #[.val (.ref pz), .val (.int (1 : Int32))] [(.ref a101)]))
  exact Wk.retA W104 hx (t := (.object "java/lang/String")) rfl rfl hret hlk (hb hby d3_21) (by decide) (by decide) ⟨_, rfl, by omega, Sv104⟩
def QTx4_2 (Z : State) (cz : Int32) (pz : Addr) (kp : ClassId) (y0 : Int32) (y1 : Int32) (y2 : Int32) (y3 : Int32) (h0 : Heap) : Option Value → Heap → Prop := fun v h => ∃ a : Addr, v = some (.ref a) ∧ h0.size ≤ a ∧ SV Z h a [y0, y1]
set_option maxRecDepth 65536 in
set_option maxHeartbeats 40000000 in
theorem rmTx4_2 (l : Launch) (Z : State) (a0 : Array Value) (hw : ∀ d ∈ tables_1, d.before a0 Z = true) (cz : Int32) (pz : Addr) (kp : ClassId) (y0 : Int32) (y1 : Int32) (y2 : Int32) (y3 : Int32) (h0 : Heap) (O : Ext Z.heap h0) (hCS : Sta Z Z.heap "java/lang/String" "COMPACT_STRINGS" "Z" (.int cz)) (hcz : ¬ cz = 0) (Vp : Arv Z h0 pz kp .char 4 [(.int y0), (.int y1), (.int y2), (.int y3)] (.int 0)) (hy0 : C8 y0) (hy1 : C8 y1) :
    CN [] l Z (⟨"com/example/federation/federation/NamesDomainOfPinLaw", "text", "([CI)Ljava/lang/String;"⟩ : MethodName) method_4_code 2 (Option.some (Jvm.ClassFile.FieldType.object "java/lang/String")) ({ frames := 4, cells := 3, slots := 8, locals := 80 } : Room) #[(.ref pz), (.int (2 : Int32))] h0 [] (QTx4_2 Z cz pz kp y0 y1 y2 y3 h0) := by
  refine CN.of_walk (plainFor_of_name pn0) O (fun _ q => nomatch q) ?_
  intro p e s m below meth c T0 W0 hx hby hml hoZ hnm hret hlk
  have H0 := W0.here; have hz0 := W0.zsize
  refine Goes.cast (ef7 m pz (2 : Int32)) ?_
  have lp := ltN Vp.lt
  refine G.iloadN H0 hx 1 (hb hby d3_0) rfl rfl ?_
  refine G.iconst H0 hx 2 (1 : Int32) (hb hby d3_1) rfl rfl ?_
  refine G.icmpY H0 hx 22 (hb hby d3_2) (feq (by decide)).2 (by decide) rfl ?_
  refine G.iloadN H0 hx 23 (hb hby d3_22) rfl rfl ?_
  refine G.iconst H0 hx 24 (2 : Int32) (hb hby d3_23) rfl rfl ?_
  refine G.icmpN H0 hx 27 (hb hby d3_24) (teq (by decide)).2 rfl ?_
  refine Wk.newO W0 hx hoZ (wd hw 12 rfl) (wd hw 13 rfl) (wd hw 14 rfl) 30 (hb hby d3_27) rfl (by decide) (by decide) ?_
  intro T101 h101 a101 W101 E101 g101 A101 D101 S101
  have H101 := W101.here; have z101 := E101.1; have gu101 := Nat.le_of_eq g101; have gt101 := Nat.le_of_eq g101.symm; have l101 := ltN A101.lt
  refine G.dup H101 hx 31 (hb hby d3_30) rfl rfl ?_
  refine G.iconst H101 hx 32 (2 : Int32) (hb hby d3_31) rfl rfl ?_
  refine Wk.newP W101 hx (wd hw 8 rfl) 34 (hb hby d3_32) (by decide) 2 (by decide) rfl (by decide) (by decide) (by decide) ?_
  intro T102 h102 a102 k102 W102 E102 g102 V102 S102
  have H102 := W102.here; have z102 := E102.1; have gu102 := Nat.le_of_eq g102; have gt102 := Nat.le_of_eq g102.symm; have l102 := ltN V102.lt
  have V102 : Arv Z h102 a102 k102 .char (2 : Int32) [(.int (0 : Int32)), (.int (0 : Int32))] (.int (0 : Int32)) := V102
  refine G.dup H102 hx 35 (hb hby d3_34) rfl rfl ?_
  refine G.iconst H102 hx 36 (0 : Int32) (hb hby d3_35) rfl rfl ?_
  refine G.aloadN H102 hx 37 (hb hby d3_36) rfl rfl rfl ?_
  refine G.iconst H102 hx 38 (0 : Int32) (hb hby d3_37) rfl rfl ?_
  refine Wk.caload W102 hx ((Vp.ext E101).ext E102) ⟨by decide, by decide⟩ (.int y0) rfl 39 (hb hby d3_38) rfl ?_
  refine Wk.castore W102 hx V102 (Or.inr (by omega)) y0 (nar_c16 hy0.up) 0 rfl ⟨by decide, by decide⟩ (Nat.le_of_ble_eq_true rfl) 40 (hb hby d3_39) rfl ?_
  intro T103 h103 W103 K103 Ch103 V103; have H103 := W103.here; have z103 := K103.1
  have V103 : Arv Z h103 a102 k102 .char (2 : Int32) [(.int y0), (.int (0 : Int32))] (.int (0 : Int32)) := V103
  refine G.dup H103 hx 41 (hb hby d3_40) rfl rfl ?_
  refine G.iconst H103 hx 42 (1 : Int32) (hb hby d3_41) rfl rfl ?_
  refine G.aloadN H103 hx 43 (hb hby d3_42) rfl rfl rfl ?_
  refine G.iconst H103 hx 44 (1 : Int32) (hb hby d3_43) rfl rfl ?_
  refine Wk.caload W103 hx (((Vp.ext E101).ext E102).keep K103 (ninS (neA (by omega)) nin0)) ⟨by decide, by decide⟩ (.int y1) rfl 45 (hb hby d3_44) rfl ?_
  refine Wk.castore W103 hx V103 (Or.inr (by omega)) y1 (nar_c16 hy1.up) 1 rfl ⟨by decide, by decide⟩ (Nat.le_of_ble_eq_true rfl) 46 (hb hby d3_45) rfl ?_
  intro T104 h104 W104 K104 Ch104 V104; have H104 := W104.here; have z104 := K104.1
  have V104 : Arv Z h104 a102 k102 .char (2 : Int32) [(.int y0), (.int y1)] (.int (0 : Int32)) := V104
  refine Wk.special W104 hx hoZ (y := (⟨"java/lang/String", "<init>", "([C)V"⟩ : MethodName)) rfl (wd hw 15 rfl) (wd hw 16 rfl) (wd hw 17 rfl) (by decide) (Wd := 1) (newS W104.warm (wsNew hw) (wd hw 13 rfl) W104.old (by omega) (((A101.ext E102).keep K103).keep K104) ((((D101 (Or.inr (wd hw 40 rfl)) (ty := (.array .byte)) (by decide)).ext E102).keep K103 (ninS (neA (by omega)) nin0)).keep K104 (ninS (neA (by omega)) nin0)) ((((D101 (Or.inr (wd hw 38 rfl)) (ty := .byte) (by decide)).ext E102).keep K103 (ninS (neA (by omega)) nin0)).keep K104 (ninS (neA (by omega)) nin0)) (cs := [y0, y1]) V104 hCS hcz 2 rfl rfl (by decide) (by decide) (ala hy0 (ala hy1 (ala0))) (by decide) (by decide)) a101 (by rw [hml]; rfl) [(.ref a102)] [(.ref a101)] (lenOf pd12 rfl) rfl rfl (Nat.le_of_eq rfl) 49 (hb hby d3_46) rfl (by decide) (by decide) (hws1 (Or.inr (by omega)) safe0) ?_
  intro v105 T105 h105 W105 K105 Ch105 Q105
  have H105 := W105.here; have z105 := K105.1
  obtain ⟨rfl, Sv105⟩ := Q105
  show Goes p e below (PostN s Z h0 [] (QTx4_2 Z cz pz kp y0 y1 y2 y3 h0) ({ frames := 4, cells := 3, slots := 8, locals := 80 } : Room).cells ({ frames := 4, cells := 3, slots := 8, locals := 80 } : Room).slots) (T105.setTop (mkF m 49 #[.val (.ref pz), .val (.int (2 : Int32))] [(.ref a101)]))
  exact Wk.retA W105 hx (t := (.object "java/lang/String")) rfl rfl hret hlk (hb hby d3_49) (by decide) (by decide) ⟨_, rfl, by omega, Sv105⟩
def QTx4_3 (Z : State) (cz : Int32) (pz : Addr) (kp : ClassId) (y0 : Int32) (y1 : Int32) (y2 : Int32) (y3 : Int32) (h0 : Heap) : Option Value → Heap → Prop := fun v h => ∃ a : Addr, v = some (.ref a) ∧ h0.size ≤ a ∧ SV Z h a [y0, y1, y2]
set_option maxRecDepth 65536 in
set_option maxHeartbeats 40000000 in
theorem rmTx4_3 (l : Launch) (Z : State) (a0 : Array Value) (hw : ∀ d ∈ tables_1, d.before a0 Z = true) (cz : Int32) (pz : Addr) (kp : ClassId) (y0 : Int32) (y1 : Int32) (y2 : Int32) (y3 : Int32) (h0 : Heap) (O : Ext Z.heap h0) (hCS : Sta Z Z.heap "java/lang/String" "COMPACT_STRINGS" "Z" (.int cz)) (hcz : ¬ cz = 0) (Vp : Arv Z h0 pz kp .char 4 [(.int y0), (.int y1), (.int y2), (.int y3)] (.int 0)) (hy0 : C8 y0) (hy1 : C8 y1) (hy2 : C8 y2) :
    CN [] l Z (⟨"com/example/federation/federation/NamesDomainOfPinLaw", "text", "([CI)Ljava/lang/String;"⟩ : MethodName) method_4_code 2 (Option.some (Jvm.ClassFile.FieldType.object "java/lang/String")) ({ frames := 4, cells := 3, slots := 10, locals := 80 } : Room) #[(.ref pz), (.int (3 : Int32))] h0 [] (QTx4_3 Z cz pz kp y0 y1 y2 y3 h0) := by
  refine CN.of_walk (plainFor_of_name pn0) O (fun _ q => nomatch q) ?_
  intro p e s m below meth c T0 W0 hx hby hml hoZ hnm hret hlk
  have H0 := W0.here; have hz0 := W0.zsize
  refine Goes.cast (ef7 m pz (3 : Int32)) ?_
  have lp := ltN Vp.lt
  refine G.iloadN H0 hx 1 (hb hby d3_0) rfl rfl ?_
  refine G.iconst H0 hx 2 (1 : Int32) (hb hby d3_1) rfl rfl ?_
  refine G.icmpY H0 hx 22 (hb hby d3_2) (feq (by decide)).2 (by decide) rfl ?_
  refine G.iloadN H0 hx 23 (hb hby d3_22) rfl rfl ?_
  refine G.iconst H0 hx 24 (2 : Int32) (hb hby d3_23) rfl rfl ?_
  refine G.icmpY H0 hx 50 (hb hby d3_24) (feq (by decide)).2 (by decide) rfl ?_
  refine G.iloadN H0 hx 51 (hb hby d3_50) rfl rfl ?_
  refine G.iconst H0 hx 52 (3 : Int32) (hb hby d3_51) rfl rfl ?_
  refine G.icmpN H0 hx 55 (hb hby d3_52) (teq (by decide)).2 rfl ?_
  refine Wk.newO W0 hx hoZ (wd hw 12 rfl) (wd hw 13 rfl) (wd hw 14 rfl) 58 (hb hby d3_55) rfl (by decide) (by decide) ?_
  intro T101 h101 a101 W101 E101 g101 A101 D101 S101
  have H101 := W101.here; have z101 := E101.1; have gu101 := Nat.le_of_eq g101; have gt101 := Nat.le_of_eq g101.symm; have l101 := ltN A101.lt
  refine G.dup H101 hx 59 (hb hby d3_58) rfl rfl ?_
  refine G.iconst H101 hx 60 (3 : Int32) (hb hby d3_59) rfl rfl ?_
  refine Wk.newP W101 hx (wd hw 8 rfl) 62 (hb hby d3_60) (by decide) 3 (by decide) rfl (by decide) (by decide) (by decide) ?_
  intro T102 h102 a102 k102 W102 E102 g102 V102 S102
  have H102 := W102.here; have z102 := E102.1; have gu102 := Nat.le_of_eq g102; have gt102 := Nat.le_of_eq g102.symm; have l102 := ltN V102.lt
  have V102 : Arv Z h102 a102 k102 .char (3 : Int32) [(.int (0 : Int32)), (.int (0 : Int32)), (.int (0 : Int32))] (.int (0 : Int32)) := V102
  refine G.dup H102 hx 63 (hb hby d3_62) rfl rfl ?_
  refine G.iconst H102 hx 64 (0 : Int32) (hb hby d3_63) rfl rfl ?_
  refine G.aloadN H102 hx 65 (hb hby d3_64) rfl rfl rfl ?_
  refine G.iconst H102 hx 66 (0 : Int32) (hb hby d3_65) rfl rfl ?_
  refine Wk.caload W102 hx ((Vp.ext E101).ext E102) ⟨by decide, by decide⟩ (.int y0) rfl 67 (hb hby d3_66) rfl ?_
  refine Wk.castore W102 hx V102 (Or.inr (by omega)) y0 (nar_c16 hy0.up) 0 rfl ⟨by decide, by decide⟩ (Nat.le_of_ble_eq_true rfl) 68 (hb hby d3_67) rfl ?_
  intro T103 h103 W103 K103 Ch103 V103; have H103 := W103.here; have z103 := K103.1
  have V103 : Arv Z h103 a102 k102 .char (3 : Int32) [(.int y0), (.int (0 : Int32)), (.int (0 : Int32))] (.int (0 : Int32)) := V103
  refine G.dup H103 hx 69 (hb hby d3_68) rfl rfl ?_
  refine G.iconst H103 hx 70 (1 : Int32) (hb hby d3_69) rfl rfl ?_
  refine G.aloadN H103 hx 71 (hb hby d3_70) rfl rfl rfl ?_
  refine G.iconst H103 hx 72 (1 : Int32) (hb hby d3_71) rfl rfl ?_
  refine Wk.caload W103 hx (((Vp.ext E101).ext E102).keep K103 (ninS (neA (by omega)) nin0)) ⟨by decide, by decide⟩ (.int y1) rfl 73 (hb hby d3_72) rfl ?_
  refine Wk.castore W103 hx V103 (Or.inr (by omega)) y1 (nar_c16 hy1.up) 1 rfl ⟨by decide, by decide⟩ (Nat.le_of_ble_eq_true rfl) 74 (hb hby d3_73) rfl ?_
  intro T104 h104 W104 K104 Ch104 V104; have H104 := W104.here; have z104 := K104.1
  have V104 : Arv Z h104 a102 k102 .char (3 : Int32) [(.int y0), (.int y1), (.int (0 : Int32))] (.int (0 : Int32)) := V104
  refine G.dup H104 hx 75 (hb hby d3_74) rfl rfl ?_
  refine G.iconst H104 hx 76 (2 : Int32) (hb hby d3_75) rfl rfl ?_
  refine G.aloadN H104 hx 77 (hb hby d3_76) rfl rfl rfl ?_
  refine G.iconst H104 hx 78 (2 : Int32) (hb hby d3_77) rfl rfl ?_
  refine Wk.caload W104 hx ((((Vp.ext E101).ext E102).keep K103 (ninS (neA (by omega)) nin0)).keep K104 (ninS (neA (by omega)) nin0)) ⟨by decide, by decide⟩ (.int y2) rfl 79 (hb hby d3_78) rfl ?_
  refine Wk.castore W104 hx V104 (Or.inr (by omega)) y2 (nar_c16 hy2.up) 2 rfl ⟨by decide, by decide⟩ (Nat.le_of_ble_eq_true rfl) 80 (hb hby d3_79) rfl ?_
  intro T105 h105 W105 K105 Ch105 V105; have H105 := W105.here; have z105 := K105.1
  have V105 : Arv Z h105 a102 k102 .char (3 : Int32) [(.int y0), (.int y1), (.int y2)] (.int (0 : Int32)) := V105
  refine Wk.special W105 hx hoZ (y := (⟨"java/lang/String", "<init>", "([C)V"⟩ : MethodName)) rfl (wd hw 15 rfl) (wd hw 16 rfl) (wd hw 17 rfl) (by decide) (Wd := 1) (newS W105.warm (wsNew hw) (wd hw 13 rfl) W105.old (by omega) ((((A101.ext E102).keep K103).keep K104).keep K105) (((((D101 (Or.inr (wd hw 40 rfl)) (ty := (.array .byte)) (by decide)).ext E102).keep K103 (ninS (neA (by omega)) nin0)).keep K104 (ninS (neA (by omega)) nin0)).keep K105 (ninS (neA (by omega)) nin0)) (((((D101 (Or.inr (wd hw 38 rfl)) (ty := .byte) (by decide)).ext E102).keep K103 (ninS (neA (by omega)) nin0)).keep K104 (ninS (neA (by omega)) nin0)).keep K105 (ninS (neA (by omega)) nin0)) (cs := [y0, y1, y2]) V105 hCS hcz 3 rfl rfl (by decide) (by decide) (ala hy0 (ala hy1 (ala hy2 (ala0)))) (by decide) (by decide)) a101 (by rw [hml]; rfl) [(.ref a102)] [(.ref a101)] (lenOf pd12 rfl) rfl rfl (Nat.le_of_eq rfl) 83 (hb hby d3_80) rfl (by decide) (by decide) (hws1 (Or.inr (by omega)) safe0) ?_
  intro v106 T106 h106 W106 K106 Ch106 Q106
  have H106 := W106.here; have z106 := K106.1
  obtain ⟨rfl, Sv106⟩ := Q106
  show Goes p e below (PostN s Z h0 [] (QTx4_3 Z cz pz kp y0 y1 y2 y3 h0) ({ frames := 4, cells := 3, slots := 10, locals := 80 } : Room).cells ({ frames := 4, cells := 3, slots := 10, locals := 80 } : Room).slots) (T106.setTop (mkF m 83 #[.val (.ref pz), .val (.int (3 : Int32))] [(.ref a101)]))
  exact Wk.retA W106 hx (t := (.object "java/lang/String")) rfl rfl hret hlk (hb hby d3_83) (by decide) (by decide) ⟨_, rfl, by omega, Sv106⟩
def QTx4_4 (Z : State) (cz : Int32) (pz : Addr) (kp : ClassId) (y0 : Int32) (y1 : Int32) (y2 : Int32) (y3 : Int32) (h0 : Heap) : Option Value → Heap → Prop := fun v h => ∃ a : Addr, v = some (.ref a) ∧ h0.size ≤ a ∧ SV Z h a [y0, y1, y2, y3]
set_option maxRecDepth 65536 in
set_option maxHeartbeats 40000000 in
theorem rmTx4_4 (l : Launch) (Z : State) (a0 : Array Value) (hw : ∀ d ∈ tables_1, d.before a0 Z = true) (cz : Int32) (pz : Addr) (kp : ClassId) (y0 : Int32) (y1 : Int32) (y2 : Int32) (y3 : Int32) (h0 : Heap) (O : Ext Z.heap h0) (hCS : Sta Z Z.heap "java/lang/String" "COMPACT_STRINGS" "Z" (.int cz)) (hcz : ¬ cz = 0) (Vp : Arv Z h0 pz kp .char 4 [(.int y0), (.int y1), (.int y2), (.int y3)] (.int 0)) (hy0 : C8 y0) (hy1 : C8 y1) (hy2 : C8 y2) (hy3 : C8 y3) :
    CN [] l Z (⟨"com/example/federation/federation/NamesDomainOfPinLaw", "text", "([CI)Ljava/lang/String;"⟩ : MethodName) method_4_code 2 (Option.some (Jvm.ClassFile.FieldType.object "java/lang/String")) ({ frames := 4, cells := 3, slots := 12, locals := 80 } : Room) #[(.ref pz), (.int (4 : Int32))] h0 [] (QTx4_4 Z cz pz kp y0 y1 y2 y3 h0) := by
  refine CN.of_walk (plainFor_of_name pn0) O (fun _ q => nomatch q) ?_
  intro p e s m below meth c T0 W0 hx hby hml hoZ hnm hret hlk
  have H0 := W0.here; have hz0 := W0.zsize
  refine Goes.cast (ef7 m pz (4 : Int32)) ?_
  have lp := ltN Vp.lt
  refine G.iloadN H0 hx 1 (hb hby d3_0) rfl rfl ?_
  refine G.iconst H0 hx 2 (1 : Int32) (hb hby d3_1) rfl rfl ?_
  refine G.icmpY H0 hx 22 (hb hby d3_2) (feq (by decide)).2 (by decide) rfl ?_
  refine G.iloadN H0 hx 23 (hb hby d3_22) rfl rfl ?_
  refine G.iconst H0 hx 24 (2 : Int32) (hb hby d3_23) rfl rfl ?_
  refine G.icmpY H0 hx 50 (hb hby d3_24) (feq (by decide)).2 (by decide) rfl ?_
  refine G.iloadN H0 hx 51 (hb hby d3_50) rfl rfl ?_
  refine G.iconst H0 hx 52 (3 : Int32) (hb hby d3_51) rfl rfl ?_
  refine G.icmpY H0 hx 84 (hb hby d3_52) (feq (by decide)).2 (by decide) rfl ?_
  refine G.iloadN H0 hx 85 (hb hby d3_84) rfl rfl ?_
  refine G.iconst H0 hx 86 (4 : Int32) (hb hby d3_85) rfl rfl ?_
  refine G.icmpN H0 hx 89 (hb hby d3_86) (teq (by decide)).2 rfl ?_
  refine Wk.newO W0 hx hoZ (wd hw 12 rfl) (wd hw 13 rfl) (wd hw 14 rfl) 92 (hb hby d3_89) rfl (by decide) (by decide) ?_
  intro T101 h101 a101 W101 E101 g101 A101 D101 S101
  have H101 := W101.here; have z101 := E101.1; have gu101 := Nat.le_of_eq g101; have gt101 := Nat.le_of_eq g101.symm; have l101 := ltN A101.lt
  refine G.dup H101 hx 93 (hb hby d3_92) rfl rfl ?_
  refine G.iconst H101 hx 94 (4 : Int32) (hb hby d3_93) rfl rfl ?_
  refine Wk.newP W101 hx (wd hw 8 rfl) 96 (hb hby d3_94) (by decide) 4 (by decide) rfl (by decide) (by decide) (by decide) ?_
  intro T102 h102 a102 k102 W102 E102 g102 V102 S102
  have H102 := W102.here; have z102 := E102.1; have gu102 := Nat.le_of_eq g102; have gt102 := Nat.le_of_eq g102.symm; have l102 := ltN V102.lt
  have V102 : Arv Z h102 a102 k102 .char (4 : Int32) [(.int (0 : Int32)), (.int (0 : Int32)), (.int (0 : Int32)), (.int (0 : Int32))] (.int (0 : Int32)) := V102
  refine G.dup H102 hx 97 (hb hby d3_96) rfl rfl ?_
  refine G.iconst H102 hx 98 (0 : Int32) (hb hby d3_97) rfl rfl ?_
  refine G.aloadN H102 hx 99 (hb hby d3_98) rfl rfl rfl ?_
  refine G.iconst H102 hx 100 (0 : Int32) (hb hby d3_99) rfl rfl ?_
  refine Wk.caload W102 hx ((Vp.ext E101).ext E102) ⟨by decide, by decide⟩ (.int y0) rfl 101 (hb hby d3_100) rfl ?_
  refine Wk.castore W102 hx V102 (Or.inr (by omega)) y0 (nar_c16 hy0.up) 0 rfl ⟨by decide, by decide⟩ (Nat.le_of_ble_eq_true rfl) 102 (hb hby d3_101) rfl ?_
  intro T103 h103 W103 K103 Ch103 V103; have H103 := W103.here; have z103 := K103.1
  have V103 : Arv Z h103 a102 k102 .char (4 : Int32) [(.int y0), (.int (0 : Int32)), (.int (0 : Int32)), (.int (0 : Int32))] (.int (0 : Int32)) := V103
  refine G.dup H103 hx 103 (hb hby d3_102) rfl rfl ?_
  refine G.iconst H103 hx 104 (1 : Int32) (hb hby d3_103) rfl rfl ?_
  refine G.aloadN H103 hx 105 (hb hby d3_104) rfl rfl rfl ?_
  refine G.iconst H103 hx 106 (1 : Int32) (hb hby d3_105) rfl rfl ?_
  refine Wk.caload W103 hx (((Vp.ext E101).ext E102).keep K103 (ninS (neA (by omega)) nin0)) ⟨by decide, by decide⟩ (.int y1) rfl 107 (hb hby d3_106) rfl ?_
  refine Wk.castore W103 hx V103 (Or.inr (by omega)) y1 (nar_c16 hy1.up) 1 rfl ⟨by decide, by decide⟩ (Nat.le_of_ble_eq_true rfl) 108 (hb hby d3_107) rfl ?_
  intro T104 h104 W104 K104 Ch104 V104; have H104 := W104.here; have z104 := K104.1
  have V104 : Arv Z h104 a102 k102 .char (4 : Int32) [(.int y0), (.int y1), (.int (0 : Int32)), (.int (0 : Int32))] (.int (0 : Int32)) := V104
  refine G.dup H104 hx 109 (hb hby d3_108) rfl rfl ?_
  refine G.iconst H104 hx 110 (2 : Int32) (hb hby d3_109) rfl rfl ?_
  refine G.aloadN H104 hx 111 (hb hby d3_110) rfl rfl rfl ?_
  refine G.iconst H104 hx 112 (2 : Int32) (hb hby d3_111) rfl rfl ?_
  refine Wk.caload W104 hx ((((Vp.ext E101).ext E102).keep K103 (ninS (neA (by omega)) nin0)).keep K104 (ninS (neA (by omega)) nin0)) ⟨by decide, by decide⟩ (.int y2) rfl 113 (hb hby d3_112) rfl ?_
  refine Wk.castore W104 hx V104 (Or.inr (by omega)) y2 (nar_c16 hy2.up) 2 rfl ⟨by decide, by decide⟩ (Nat.le_of_ble_eq_true rfl) 114 (hb hby d3_113) rfl ?_
  intro T105 h105 W105 K105 Ch105 V105; have H105 := W105.here; have z105 := K105.1
  have V105 : Arv Z h105 a102 k102 .char (4 : Int32) [(.int y0), (.int y1), (.int y2), (.int (0 : Int32))] (.int (0 : Int32)) := V105
  refine G.dup H105 hx 115 (hb hby d3_114) rfl rfl ?_
  refine G.iconst H105 hx 116 (3 : Int32) (hb hby d3_115) rfl rfl ?_
  refine G.aloadN H105 hx 117 (hb hby d3_116) rfl rfl rfl ?_
  refine G.iconst H105 hx 118 (3 : Int32) (hb hby d3_117) rfl rfl ?_
  refine Wk.caload W105 hx (((((Vp.ext E101).ext E102).keep K103 (ninS (neA (by omega)) nin0)).keep K104 (ninS (neA (by omega)) nin0)).keep K105 (ninS (neA (by omega)) nin0)) ⟨by decide, by decide⟩ (.int y3) rfl 119 (hb hby d3_118) rfl ?_
  refine Wk.castore W105 hx V105 (Or.inr (by omega)) y3 (nar_c16 hy3.up) 3 rfl ⟨by decide, by decide⟩ (Nat.le_of_ble_eq_true rfl) 120 (hb hby d3_119) rfl ?_
  intro T106 h106 W106 K106 Ch106 V106; have H106 := W106.here; have z106 := K106.1
  have V106 : Arv Z h106 a102 k102 .char (4 : Int32) [(.int y0), (.int y1), (.int y2), (.int y3)] (.int (0 : Int32)) := V106
  refine Wk.special W106 hx hoZ (y := (⟨"java/lang/String", "<init>", "([C)V"⟩ : MethodName)) rfl (wd hw 15 rfl) (wd hw 16 rfl) (wd hw 17 rfl) (by decide) (Wd := 1) (newS W106.warm (wsNew hw) (wd hw 13 rfl) W106.old (by omega) (((((A101.ext E102).keep K103).keep K104).keep K105).keep K106) ((((((D101 (Or.inr (wd hw 40 rfl)) (ty := (.array .byte)) (by decide)).ext E102).keep K103 (ninS (neA (by omega)) nin0)).keep K104 (ninS (neA (by omega)) nin0)).keep K105 (ninS (neA (by omega)) nin0)).keep K106 (ninS (neA (by omega)) nin0)) ((((((D101 (Or.inr (wd hw 38 rfl)) (ty := .byte) (by decide)).ext E102).keep K103 (ninS (neA (by omega)) nin0)).keep K104 (ninS (neA (by omega)) nin0)).keep K105 (ninS (neA (by omega)) nin0)).keep K106 (ninS (neA (by omega)) nin0)) (cs := [y0, y1, y2, y3]) V106 hCS hcz 4 rfl rfl (by decide) (by decide) (ala hy0 (ala hy1 (ala hy2 (ala hy3 (ala0))))) (by decide) (by decide)) a101 (by rw [hml]; rfl) [(.ref a102)] [(.ref a101)] (lenOf pd12 rfl) rfl rfl (Nat.le_of_eq rfl) 123 (hb hby d3_120) rfl (by decide) (by decide) (hws1 (Or.inr (by omega)) safe0) ?_
  intro v107 T107 h107 W107 K107 Ch107 Q107
  have H107 := W107.here; have z107 := K107.1
  obtain ⟨rfl, Sv107⟩ := Q107
  show Goes p e below (PostN s Z h0 [] (QTx4_4 Z cz pz kp y0 y1 y2 y3 h0) ({ frames := 4, cells := 3, slots := 12, locals := 80 } : Room).cells ({ frames := 4, cells := 3, slots := 12, locals := 80 } : Room).slots) (T107.setTop (mkF m 123 #[.val (.ref pz), .val (.int (4 : Int32))] [(.ref a101)]))
  exact Wk.retA W107 hx (t := (.object "java/lang/String")) rfl rfl hret hlk (hb hby d3_123) (by decide) (by decide) ⟨_, rfl, by omega, Sv107⟩
def QDm3_1 (Z : State) (cz : Int32) (fm : Value) (a : Addr) (y0 : Int32) (y2 : Int32) (h0 : Heap) : Option Value → Heap → Prop := fun v h => ∃ r : Addr, v = some (.ref r) ∧ h0.size ≤ r ∧ SV Z h r [y0]
set_option maxRecDepth 65536 in
set_option maxHeartbeats 40000000 in
theorem rmDm3_1 (l : Launch) (Z : State) (a0 : Array Value) (hw : ∀ d ∈ tables_1, d.before a0 Z = true) (cz : Int32) (fm : Value) (a : Addr) (y0 : Int32) (y2 : Int32) (h0 : Heap) (O : Ext Z.heap h0) (hCS : Sta Z Z.heap "java/lang/String" "COMPACT_STRINGS" "Z" (.int cz)) (hcz : ¬ cz = 0) (hFM : Sta Z Z.heap "jdk/internal/util/Preconditions" "SIOOBE_FORMATTER" "Ljava/util/function/BiFunction;" fm) (hfm : fm.isRef = true) (Sa : SV Z h0 a [y0, (58 : Int32), y2]) (hy0 : C8 y0) (hy2 : C8 y2) (ny0 : ¬ y0 = 58) :
    CN [] l Z (⟨"com/example/federation/federation/Names", "domainOf", "(Ljava/lang/String;)Ljava/lang/String;"⟩ : MethodName) prog_26_method_5_code 1 (Option.some (Jvm.ClassFile.FieldType.object "java/lang/String")) ({ frames := 5, cells := 2, slots := 12, locals := 170 } : Room) #[(.ref a)] h0 [] (QDm3_1 Z cz fm a y0 y2 h0) := by
  refine CN.of_walk (plainFor_of_name pn5) O (fun _ q => nomatch q) ?_
  intro p e s m below meth c T0 W0 hx hby hml hoZ hnm hret hlk
  have H0 := W0.here; have hz0 := W0.zsize
  refine Goes.cast (ef1 m a) ?_
  refine G.aloadN H0 hx 1 (hb hby d10_0) rfl rfl rfl ?_
  refine G.iconst H0 hx 2 (0 : Int32) (hb hby d10_1) rfl rfl ?_
  refine G.aloadN H0 hx 3 (hb hby d10_2) rfl rfl rfl ?_
  refine G.bipush H0 hx 5 (58 : Int32) (hb hby d10_3) rfl rfl ?_
  refine Wk.virtual W0 hx hoZ (y := (⟨"java/lang/String", "indexOf", "(I)I"⟩ : MethodName)) (z := (⟨"java/lang/String", "indexOf", "(I)I"⟩ : MethodName)) (wd hw 45 rfl) (wd hw 46 rfl) (wd hw 48 rfl) (wd hw 47 rfl) (W0.nf (wd hw 48 rfl)) (by decide) (Wd := 2) (CN.back (rmIx0 l Z a0 hw cz a (58 : Int32) ([y0, (58 : Int32), y2] : List Int32) 1 h0 W0.old hCS hcz Sa (ala hy0 (ala (C8.of (by decide)) (ala hy2 (ala0)))) (C8.of (by decide)) (Nat.le_of_ble_eq_true rfl) (nallS nall0 ny0) (fun _ => rfl)) W0.warm (wd hw 49 rfl) (wd hw 14 rfl) (by decide) (by decide)) Sa.exa (by rw [hml]; rfl) [(.int (58 : Int32))] [(.int (0 : Int32)), (.ref a)] (lenOf pd13 rfl) rfl rfl (Nat.le_of_eq rfl) 8 (hb hby d10_5) rfl (by decide) (by decide) (fun _ q => nomatch q) ?_
  intro v101 T101 h101 W101 K101 Ch101 Q101
  have H101 := W101.here; have z101 := K101.1
  obtain ⟨rfl, eh101⟩ := Q101
  show Goes p e below (PostN s Z h0 [] (QDm3_1 Z cz fm a y0 y2 h0) ({ frames := 5, cells := 2, slots := 12, locals := 170 } : Room).cells ({ frames := 5, cells := 2, slots := 12, locals := 170 } : Room).slots) (T101.setTop (mkF m 8 #[.val (.ref a)] [(.int (if 1 < ([y0, (58 : Int32), y2] : List Int32).length then Int32.ofNat 1 else -1)), (.int (0 : Int32)), (.ref a)]))
  rw [show (if 1 < ([y0, (58 : Int32), y2] : List Int32).length then Int32.ofNat 1 else -1) = (1 : Int32) from rfl]
  show Goes p e below (PostN s Z h0 [] (QDm3_1 Z cz fm a y0 y2 h0) ({ frames := 5, cells := 2, slots := 12, locals := 170 } : Room).cells ({ frames := 5, cells := 2, slots := 12, locals := 170 } : Room).slots) (T101.setTop (mkF m 8 #[.val (.ref a)] [(.int (1 : Int32)), (.int (0 : Int32)), (.ref a)]))
  refine Wk.virtual W101 hx hoZ (y := (⟨"java/lang/String", "substring", "(II)Ljava/lang/String;"⟩ : MethodName)) (z := (⟨"java/lang/String", "substring", "(II)Ljava/lang/String;"⟩ : MethodName)) (wd hw 87 rfl) (wd hw 88 rfl) (wd hw 90 rfl) (wd hw 89 rfl) (W101.nf (wd hw 90 rfl)) (by decide) (Wd := 0) (CN.back (rmSub l Z a0 hw cz fm a (0 : Int32) (1 : Int32) (3 : Int32) ([y0, (58 : Int32), y2] : List Int32) ([y0] : List Int32) h101 W101.old hCS hcz hFM hfm (Sa.keepX K101 ala0) (ala hy0 (ala (C8.of (by decide)) (ala hy2 (ala0)))) rfl (by decide) (by decide) (by decide) (by decide) (by decide) (by decide) (by decide) (by decide) (by decide) rfl (show (1 : Int32) - (0 : Int32) = Int32.ofNat 1 from by decide) (ala hy0 (ala0)) (Nat.le_of_ble_eq_true rfl)) W101.warm (wd hw 91 rfl) (wd hw 14 rfl) (by decide) (by decide)) (Sa.exa.keep K101) (by rw [hml]; rfl) [(.int (0 : Int32)), (.int (1 : Int32))] [] (lenOf pd14 rfl) rfl rfl (Nat.le_of_eq rfl) 11 (hb hby d10_8) rfl (by decide) (by decide) (fun _ q => nomatch q) ?_
  intro v102 T102 h102 W102 K102 Ch102 Q102
  have H102 := W102.here; have z102 := K102.1
  obtain ⟨a102, rfl, g102, Sv102⟩ := Q102; have l102 := ltN Sv102.lt
  show Goes p e below (PostN s Z h0 [] (QDm3_1 Z cz fm a y0 y2 h0) ({ frames := 5, cells := 2, slots := 12, locals := 170 } : Room).cells ({ frames := 5, cells := 2, slots := 12, locals := 170 } : Room).slots) (T102.setTop (mkF m 11 #[.val (.ref a)] [(.ref a102)]))
  exact Wk.retA W102 hx (t := (.object "java/lang/String")) rfl rfl hret hlk (hb hby d10_11) (by decide) (by decide) ⟨_, rfl, by omega, Sv102⟩
def QDm4_1 (Z : State) (cz : Int32) (fm : Value) (a : Addr) (y0 : Int32) (y2 : Int32) (y3 : Int32) (h0 : Heap) : Option Value → Heap → Prop := fun v h => ∃ r : Addr, v = some (.ref r) ∧ h0.size ≤ r ∧ SV Z h r [y0]
set_option maxRecDepth 65536 in
set_option maxHeartbeats 40000000 in
theorem rmDm4_1 (l : Launch) (Z : State) (a0 : Array Value) (hw : ∀ d ∈ tables_1, d.before a0 Z = true) (cz : Int32) (fm : Value) (a : Addr) (y0 : Int32) (y2 : Int32) (y3 : Int32) (h0 : Heap) (O : Ext Z.heap h0) (hCS : Sta Z Z.heap "java/lang/String" "COMPACT_STRINGS" "Z" (.int cz)) (hcz : ¬ cz = 0) (hFM : Sta Z Z.heap "jdk/internal/util/Preconditions" "SIOOBE_FORMATTER" "Ljava/util/function/BiFunction;" fm) (hfm : fm.isRef = true) (Sa : SV Z h0 a [y0, (58 : Int32), y2, y3]) (hy0 : C8 y0) (hy2 : C8 y2) (hy3 : C8 y3) (ny0 : ¬ y0 = 58) :
    CN [] l Z (⟨"com/example/federation/federation/Names", "domainOf", "(Ljava/lang/String;)Ljava/lang/String;"⟩ : MethodName) prog_26_method_5_code 1 (Option.some (Jvm.ClassFile.FieldType.object "java/lang/String")) ({ frames := 5, cells := 2, slots := 12, locals := 170 } : Room) #[(.ref a)] h0 [] (QDm4_1 Z cz fm a y0 y2 y3 h0) := by
  refine CN.of_walk (plainFor_of_name pn5) O (fun _ q => nomatch q) ?_
  intro p e s m below meth c T0 W0 hx hby hml hoZ hnm hret hlk
  have H0 := W0.here; have hz0 := W0.zsize
  refine Goes.cast (ef1 m a) ?_
  refine G.aloadN H0 hx 1 (hb hby d10_0) rfl rfl rfl ?_
  refine G.iconst H0 hx 2 (0 : Int32) (hb hby d10_1) rfl rfl ?_
  refine G.aloadN H0 hx 3 (hb hby d10_2) rfl rfl rfl ?_
  refine G.bipush H0 hx 5 (58 : Int32) (hb hby d10_3) rfl rfl ?_
  refine Wk.virtual W0 hx hoZ (y := (⟨"java/lang/String", "indexOf", "(I)I"⟩ : MethodName)) (z := (⟨"java/lang/String", "indexOf", "(I)I"⟩ : MethodName)) (wd hw 45 rfl) (wd hw 46 rfl) (wd hw 48 rfl) (wd hw 47 rfl) (W0.nf (wd hw 48 rfl)) (by decide) (Wd := 2) (CN.back (rmIx0 l Z a0 hw cz a (58 : Int32) ([y0, (58 : Int32), y2, y3] : List Int32) 1 h0 W0.old hCS hcz Sa (ala hy0 (ala (C8.of (by decide)) (ala hy2 (ala hy3 (ala0))))) (C8.of (by decide)) (Nat.le_of_ble_eq_true rfl) (nallS nall0 ny0) (fun _ => rfl)) W0.warm (wd hw 49 rfl) (wd hw 14 rfl) (by decide) (by decide)) Sa.exa (by rw [hml]; rfl) [(.int (58 : Int32))] [(.int (0 : Int32)), (.ref a)] (lenOf pd13 rfl) rfl rfl (Nat.le_of_eq rfl) 8 (hb hby d10_5) rfl (by decide) (by decide) (fun _ q => nomatch q) ?_
  intro v101 T101 h101 W101 K101 Ch101 Q101
  have H101 := W101.here; have z101 := K101.1
  obtain ⟨rfl, eh101⟩ := Q101
  show Goes p e below (PostN s Z h0 [] (QDm4_1 Z cz fm a y0 y2 y3 h0) ({ frames := 5, cells := 2, slots := 12, locals := 170 } : Room).cells ({ frames := 5, cells := 2, slots := 12, locals := 170 } : Room).slots) (T101.setTop (mkF m 8 #[.val (.ref a)] [(.int (if 1 < ([y0, (58 : Int32), y2, y3] : List Int32).length then Int32.ofNat 1 else -1)), (.int (0 : Int32)), (.ref a)]))
  rw [show (if 1 < ([y0, (58 : Int32), y2, y3] : List Int32).length then Int32.ofNat 1 else -1) = (1 : Int32) from rfl]
  show Goes p e below (PostN s Z h0 [] (QDm4_1 Z cz fm a y0 y2 y3 h0) ({ frames := 5, cells := 2, slots := 12, locals := 170 } : Room).cells ({ frames := 5, cells := 2, slots := 12, locals := 170 } : Room).slots) (T101.setTop (mkF m 8 #[.val (.ref a)] [(.int (1 : Int32)), (.int (0 : Int32)), (.ref a)]))
  refine Wk.virtual W101 hx hoZ (y := (⟨"java/lang/String", "substring", "(II)Ljava/lang/String;"⟩ : MethodName)) (z := (⟨"java/lang/String", "substring", "(II)Ljava/lang/String;"⟩ : MethodName)) (wd hw 87 rfl) (wd hw 88 rfl) (wd hw 90 rfl) (wd hw 89 rfl) (W101.nf (wd hw 90 rfl)) (by decide) (Wd := 0) (CN.back (rmSub l Z a0 hw cz fm a (0 : Int32) (1 : Int32) (4 : Int32) ([y0, (58 : Int32), y2, y3] : List Int32) ([y0] : List Int32) h101 W101.old hCS hcz hFM hfm (Sa.keepX K101 ala0) (ala hy0 (ala (C8.of (by decide)) (ala hy2 (ala hy3 (ala0))))) rfl (by decide) (by decide) (by decide) (by decide) (by decide) (by decide) (by decide) (by decide) (by decide) rfl (show (1 : Int32) - (0 : Int32) = Int32.ofNat 1 from by decide) (ala hy0 (ala0)) (Nat.le_of_ble_eq_true rfl)) W101.warm (wd hw 91 rfl) (wd hw 14 rfl) (by decide) (by decide)) (Sa.exa.keep K101) (by rw [hml]; rfl) [(.int (0 : Int32)), (.int (1 : Int32))] [] (lenOf pd14 rfl) rfl rfl (Nat.le_of_eq rfl) 11 (hb hby d10_8) rfl (by decide) (by decide) (fun _ q => nomatch q) ?_
  intro v102 T102 h102 W102 K102 Ch102 Q102
  have H102 := W102.here; have z102 := K102.1
  obtain ⟨a102, rfl, g102, Sv102⟩ := Q102; have l102 := ltN Sv102.lt
  show Goes p e below (PostN s Z h0 [] (QDm4_1 Z cz fm a y0 y2 y3 h0) ({ frames := 5, cells := 2, slots := 12, locals := 170 } : Room).cells ({ frames := 5, cells := 2, slots := 12, locals := 170 } : Room).slots) (T102.setTop (mkF m 11 #[.val (.ref a)] [(.ref a102)]))
  exact Wk.retA W102 hx (t := (.object "java/lang/String")) rfl rfl hret hlk (hb hby d10_11) (by decide) (by decide) ⟨_, rfl, by omega, Sv102⟩
def QDm4_2 (Z : State) (cz : Int32) (fm : Value) (a : Addr) (y0 : Int32) (y1 : Int32) (y3 : Int32) (h0 : Heap) : Option Value → Heap → Prop := fun v h => ∃ r : Addr, v = some (.ref r) ∧ h0.size ≤ r ∧ SV Z h r [y0, y1]
set_option maxRecDepth 65536 in
set_option maxHeartbeats 40000000 in
theorem rmDm4_2 (l : Launch) (Z : State) (a0 : Array Value) (hw : ∀ d ∈ tables_1, d.before a0 Z = true) (cz : Int32) (fm : Value) (a : Addr) (y0 : Int32) (y1 : Int32) (y3 : Int32) (h0 : Heap) (O : Ext Z.heap h0) (hCS : Sta Z Z.heap "java/lang/String" "COMPACT_STRINGS" "Z" (.int cz)) (hcz : ¬ cz = 0) (hFM : Sta Z Z.heap "jdk/internal/util/Preconditions" "SIOOBE_FORMATTER" "Ljava/util/function/BiFunction;" fm) (hfm : fm.isRef = true) (Sa : SV Z h0 a [y0, y1, (58 : Int32), y3]) (hy0 : C8 y0) (hy1 : C8 y1) (hy3 : C8 y3) (ny0 : ¬ y0 = 58) (ny1 : ¬ y1 = 58) :
    CN [] l Z (⟨"com/example/federation/federation/Names", "domainOf", "(Ljava/lang/String;)Ljava/lang/String;"⟩ : MethodName) prog_26_method_5_code 1 (Option.some (Jvm.ClassFile.FieldType.object "java/lang/String")) ({ frames := 5, cells := 2, slots := 12, locals := 170 } : Room) #[(.ref a)] h0 [] (QDm4_2 Z cz fm a y0 y1 y3 h0) := by
  refine CN.of_walk (plainFor_of_name pn5) O (fun _ q => nomatch q) ?_
  intro p e s m below meth c T0 W0 hx hby hml hoZ hnm hret hlk
  have H0 := W0.here; have hz0 := W0.zsize
  refine Goes.cast (ef1 m a) ?_
  refine G.aloadN H0 hx 1 (hb hby d10_0) rfl rfl rfl ?_
  refine G.iconst H0 hx 2 (0 : Int32) (hb hby d10_1) rfl rfl ?_
  refine G.aloadN H0 hx 3 (hb hby d10_2) rfl rfl rfl ?_
  refine G.bipush H0 hx 5 (58 : Int32) (hb hby d10_3) rfl rfl ?_
  refine Wk.virtual W0 hx hoZ (y := (⟨"java/lang/String", "indexOf", "(I)I"⟩ : MethodName)) (z := (⟨"java/lang/String", "indexOf", "(I)I"⟩ : MethodName)) (wd hw 45 rfl) (wd hw 46 rfl) (wd hw 48 rfl) (wd hw 47 rfl) (W0.nf (wd hw 48 rfl)) (by decide) (Wd := 2) (CN.back (rmIx0 l Z a0 hw cz a (58 : Int32) ([y0, y1, (58 : Int32), y3] : List Int32) 2 h0 W0.old hCS hcz Sa (ala hy0 (ala hy1 (ala (C8.of (by decide)) (ala hy3 (ala0))))) (C8.of (by decide)) (Nat.le_of_ble_eq_true rfl) (nallS (nallS nall0 ny0) ny1) (fun _ => rfl)) W0.warm (wd hw 49 rfl) (wd hw 14 rfl) (by decide) (by decide)) Sa.exa (by rw [hml]; rfl) [(.int (58 : Int32))] [(.int (0 : Int32)), (.ref a)] (lenOf pd13 rfl) rfl rfl (Nat.le_of_eq rfl) 8 (hb hby d10_5) rfl (by decide) (by decide) (fun _ q => nomatch q) ?_
  intro v101 T101 h101 W101 K101 Ch101 Q101
  have H101 := W101.here; have z101 := K101.1
  obtain ⟨rfl, eh101⟩ := Q101
  show Goes p e below (PostN s Z h0 [] (QDm4_2 Z cz fm a y0 y1 y3 h0) ({ frames := 5, cells := 2, slots := 12, locals := 170 } : Room).cells ({ frames := 5, cells := 2, slots := 12, locals := 170 } : Room).slots) (T101.setTop (mkF m 8 #[.val (.ref a)] [(.int (if 2 < ([y0, y1, (58 : Int32), y3] : List Int32).length then Int32.ofNat 2 else -1)), (.int (0 : Int32)), (.ref a)]))
  rw [show (if 2 < ([y0, y1, (58 : Int32), y3] : List Int32).length then Int32.ofNat 2 else -1) = (2 : Int32) from rfl]
  show Goes p e below (PostN s Z h0 [] (QDm4_2 Z cz fm a y0 y1 y3 h0) ({ frames := 5, cells := 2, slots := 12, locals := 170 } : Room).cells ({ frames := 5, cells := 2, slots := 12, locals := 170 } : Room).slots) (T101.setTop (mkF m 8 #[.val (.ref a)] [(.int (2 : Int32)), (.int (0 : Int32)), (.ref a)]))
  refine Wk.virtual W101 hx hoZ (y := (⟨"java/lang/String", "substring", "(II)Ljava/lang/String;"⟩ : MethodName)) (z := (⟨"java/lang/String", "substring", "(II)Ljava/lang/String;"⟩ : MethodName)) (wd hw 87 rfl) (wd hw 88 rfl) (wd hw 90 rfl) (wd hw 89 rfl) (W101.nf (wd hw 90 rfl)) (by decide) (Wd := 0) (CN.back (rmSub l Z a0 hw cz fm a (0 : Int32) (2 : Int32) (4 : Int32) ([y0, y1, (58 : Int32), y3] : List Int32) ([y0, y1] : List Int32) h101 W101.old hCS hcz hFM hfm (Sa.keepX K101 ala0) (ala hy0 (ala hy1 (ala (C8.of (by decide)) (ala hy3 (ala0))))) rfl (by decide) (by decide) (by decide) (by decide) (by decide) (by decide) (by decide) (by decide) (by decide) rfl (show (2 : Int32) - (0 : Int32) = Int32.ofNat 2 from by decide) (ala hy0 (ala hy1 (ala0))) (Nat.le_of_ble_eq_true rfl)) W101.warm (wd hw 91 rfl) (wd hw 14 rfl) (by decide) (by decide)) (Sa.exa.keep K101) (by rw [hml]; rfl) [(.int (0 : Int32)), (.int (2 : Int32))] [] (lenOf pd14 rfl) rfl rfl (Nat.le_of_eq rfl) 11 (hb hby d10_8) rfl (by decide) (by decide) (fun _ q => nomatch q) ?_
  intro v102 T102 h102 W102 K102 Ch102 Q102
  have H102 := W102.here; have z102 := K102.1
  obtain ⟨a102, rfl, g102, Sv102⟩ := Q102; have l102 := ltN Sv102.lt
  show Goes p e below (PostN s Z h0 [] (QDm4_2 Z cz fm a y0 y1 y3 h0) ({ frames := 5, cells := 2, slots := 12, locals := 170 } : Room).cells ({ frames := 5, cells := 2, slots := 12, locals := 170 } : Room).slots) (T102.setTop (mkF m 11 #[.val (.ref a)] [(.ref a102)]))
  exact Wk.retA W102 hx (t := (.object "java/lang/String")) rfl rfl hret hlk (hb hby d10_11) (by decide) (by decide) ⟨_, rfl, by omega, Sv102⟩
def QDm5_2 (Z : State) (cz : Int32) (fm : Value) (a : Addr) (y0 : Int32) (y1 : Int32) (y3 : Int32) (y4 : Int32) (h0 : Heap) : Option Value → Heap → Prop := fun v h => ∃ r : Addr, v = some (.ref r) ∧ h0.size ≤ r ∧ SV Z h r [y0, y1]
set_option maxRecDepth 65536 in
set_option maxHeartbeats 40000000 in
theorem rmDm5_2 (l : Launch) (Z : State) (a0 : Array Value) (hw : ∀ d ∈ tables_1, d.before a0 Z = true) (cz : Int32) (fm : Value) (a : Addr) (y0 : Int32) (y1 : Int32) (y3 : Int32) (y4 : Int32) (h0 : Heap) (O : Ext Z.heap h0) (hCS : Sta Z Z.heap "java/lang/String" "COMPACT_STRINGS" "Z" (.int cz)) (hcz : ¬ cz = 0) (hFM : Sta Z Z.heap "jdk/internal/util/Preconditions" "SIOOBE_FORMATTER" "Ljava/util/function/BiFunction;" fm) (hfm : fm.isRef = true) (Sa : SV Z h0 a [y0, y1, (58 : Int32), y3, y4]) (hy0 : C8 y0) (hy1 : C8 y1) (hy3 : C8 y3) (hy4 : C8 y4) (ny0 : ¬ y0 = 58) (ny1 : ¬ y1 = 58) :
    CN [] l Z (⟨"com/example/federation/federation/Names", "domainOf", "(Ljava/lang/String;)Ljava/lang/String;"⟩ : MethodName) prog_26_method_5_code 1 (Option.some (Jvm.ClassFile.FieldType.object "java/lang/String")) ({ frames := 5, cells := 2, slots := 12, locals := 170 } : Room) #[(.ref a)] h0 [] (QDm5_2 Z cz fm a y0 y1 y3 y4 h0) := by
  refine CN.of_walk (plainFor_of_name pn5) O (fun _ q => nomatch q) ?_
  intro p e s m below meth c T0 W0 hx hby hml hoZ hnm hret hlk
  have H0 := W0.here; have hz0 := W0.zsize
  refine Goes.cast (ef1 m a) ?_
  refine G.aloadN H0 hx 1 (hb hby d10_0) rfl rfl rfl ?_
  refine G.iconst H0 hx 2 (0 : Int32) (hb hby d10_1) rfl rfl ?_
  refine G.aloadN H0 hx 3 (hb hby d10_2) rfl rfl rfl ?_
  refine G.bipush H0 hx 5 (58 : Int32) (hb hby d10_3) rfl rfl ?_
  refine Wk.virtual W0 hx hoZ (y := (⟨"java/lang/String", "indexOf", "(I)I"⟩ : MethodName)) (z := (⟨"java/lang/String", "indexOf", "(I)I"⟩ : MethodName)) (wd hw 45 rfl) (wd hw 46 rfl) (wd hw 48 rfl) (wd hw 47 rfl) (W0.nf (wd hw 48 rfl)) (by decide) (Wd := 2) (CN.back (rmIx0 l Z a0 hw cz a (58 : Int32) ([y0, y1, (58 : Int32), y3, y4] : List Int32) 2 h0 W0.old hCS hcz Sa (ala hy0 (ala hy1 (ala (C8.of (by decide)) (ala hy3 (ala hy4 (ala0)))))) (C8.of (by decide)) (Nat.le_of_ble_eq_true rfl) (nallS (nallS nall0 ny0) ny1) (fun _ => rfl)) W0.warm (wd hw 49 rfl) (wd hw 14 rfl) (by decide) (by decide)) Sa.exa (by rw [hml]; rfl) [(.int (58 : Int32))] [(.int (0 : Int32)), (.ref a)] (lenOf pd13 rfl) rfl rfl (Nat.le_of_eq rfl) 8 (hb hby d10_5) rfl (by decide) (by decide) (fun _ q => nomatch q) ?_
  intro v101 T101 h101 W101 K101 Ch101 Q101
  have H101 := W101.here; have z101 := K101.1
  obtain ⟨rfl, eh101⟩ := Q101
  show Goes p e below (PostN s Z h0 [] (QDm5_2 Z cz fm a y0 y1 y3 y4 h0) ({ frames := 5, cells := 2, slots := 12, locals := 170 } : Room).cells ({ frames := 5, cells := 2, slots := 12, locals := 170 } : Room).slots) (T101.setTop (mkF m 8 #[.val (.ref a)] [(.int (if 2 < ([y0, y1, (58 : Int32), y3, y4] : List Int32).length then Int32.ofNat 2 else -1)), (.int (0 : Int32)), (.ref a)]))
  rw [show (if 2 < ([y0, y1, (58 : Int32), y3, y4] : List Int32).length then Int32.ofNat 2 else -1) = (2 : Int32) from rfl]
  show Goes p e below (PostN s Z h0 [] (QDm5_2 Z cz fm a y0 y1 y3 y4 h0) ({ frames := 5, cells := 2, slots := 12, locals := 170 } : Room).cells ({ frames := 5, cells := 2, slots := 12, locals := 170 } : Room).slots) (T101.setTop (mkF m 8 #[.val (.ref a)] [(.int (2 : Int32)), (.int (0 : Int32)), (.ref a)]))
  refine Wk.virtual W101 hx hoZ (y := (⟨"java/lang/String", "substring", "(II)Ljava/lang/String;"⟩ : MethodName)) (z := (⟨"java/lang/String", "substring", "(II)Ljava/lang/String;"⟩ : MethodName)) (wd hw 87 rfl) (wd hw 88 rfl) (wd hw 90 rfl) (wd hw 89 rfl) (W101.nf (wd hw 90 rfl)) (by decide) (Wd := 0) (CN.back (rmSub l Z a0 hw cz fm a (0 : Int32) (2 : Int32) (5 : Int32) ([y0, y1, (58 : Int32), y3, y4] : List Int32) ([y0, y1] : List Int32) h101 W101.old hCS hcz hFM hfm (Sa.keepX K101 ala0) (ala hy0 (ala hy1 (ala (C8.of (by decide)) (ala hy3 (ala hy4 (ala0)))))) rfl (by decide) (by decide) (by decide) (by decide) (by decide) (by decide) (by decide) (by decide) (by decide) rfl (show (2 : Int32) - (0 : Int32) = Int32.ofNat 2 from by decide) (ala hy0 (ala hy1 (ala0))) (Nat.le_of_ble_eq_true rfl)) W101.warm (wd hw 91 rfl) (wd hw 14 rfl) (by decide) (by decide)) (Sa.exa.keep K101) (by rw [hml]; rfl) [(.int (0 : Int32)), (.int (2 : Int32))] [] (lenOf pd14 rfl) rfl rfl (Nat.le_of_eq rfl) 11 (hb hby d10_8) rfl (by decide) (by decide) (fun _ q => nomatch q) ?_
  intro v102 T102 h102 W102 K102 Ch102 Q102
  have H102 := W102.here; have z102 := K102.1
  obtain ⟨a102, rfl, g102, Sv102⟩ := Q102; have l102 := ltN Sv102.lt
  show Goes p e below (PostN s Z h0 [] (QDm5_2 Z cz fm a y0 y1 y3 y4 h0) ({ frames := 5, cells := 2, slots := 12, locals := 170 } : Room).cells ({ frames := 5, cells := 2, slots := 12, locals := 170 } : Room).slots) (T102.setTop (mkF m 11 #[.val (.ref a)] [(.ref a102)]))
  exact Wk.retA W102 hx (t := (.object "java/lang/String")) rfl rfl hret hlk (hb hby d10_11) (by decide) (by decide) ⟨_, rfl, by omega, Sv102⟩
def QDm5_3 (Z : State) (cz : Int32) (fm : Value) (a : Addr) (y0 : Int32) (y1 : Int32) (y2 : Int32) (y4 : Int32) (h0 : Heap) : Option Value → Heap → Prop := fun v h => ∃ r : Addr, v = some (.ref r) ∧ h0.size ≤ r ∧ SV Z h r [y0, y1, y2]
set_option maxRecDepth 65536 in
set_option maxHeartbeats 40000000 in
theorem rmDm5_3 (l : Launch) (Z : State) (a0 : Array Value) (hw : ∀ d ∈ tables_1, d.before a0 Z = true) (cz : Int32) (fm : Value) (a : Addr) (y0 : Int32) (y1 : Int32) (y2 : Int32) (y4 : Int32) (h0 : Heap) (O : Ext Z.heap h0) (hCS : Sta Z Z.heap "java/lang/String" "COMPACT_STRINGS" "Z" (.int cz)) (hcz : ¬ cz = 0) (hFM : Sta Z Z.heap "jdk/internal/util/Preconditions" "SIOOBE_FORMATTER" "Ljava/util/function/BiFunction;" fm) (hfm : fm.isRef = true) (Sa : SV Z h0 a [y0, y1, y2, (58 : Int32), y4]) (hy0 : C8 y0) (hy1 : C8 y1) (hy2 : C8 y2) (hy4 : C8 y4) (ny0 : ¬ y0 = 58) (ny1 : ¬ y1 = 58) (ny2 : ¬ y2 = 58) :
    CN [] l Z (⟨"com/example/federation/federation/Names", "domainOf", "(Ljava/lang/String;)Ljava/lang/String;"⟩ : MethodName) prog_26_method_5_code 1 (Option.some (Jvm.ClassFile.FieldType.object "java/lang/String")) ({ frames := 5, cells := 2, slots := 12, locals := 170 } : Room) #[(.ref a)] h0 [] (QDm5_3 Z cz fm a y0 y1 y2 y4 h0) := by
  refine CN.of_walk (plainFor_of_name pn5) O (fun _ q => nomatch q) ?_
  intro p e s m below meth c T0 W0 hx hby hml hoZ hnm hret hlk
  have H0 := W0.here; have hz0 := W0.zsize
  refine Goes.cast (ef1 m a) ?_
  refine G.aloadN H0 hx 1 (hb hby d10_0) rfl rfl rfl ?_
  refine G.iconst H0 hx 2 (0 : Int32) (hb hby d10_1) rfl rfl ?_
  refine G.aloadN H0 hx 3 (hb hby d10_2) rfl rfl rfl ?_
  refine G.bipush H0 hx 5 (58 : Int32) (hb hby d10_3) rfl rfl ?_
  refine Wk.virtual W0 hx hoZ (y := (⟨"java/lang/String", "indexOf", "(I)I"⟩ : MethodName)) (z := (⟨"java/lang/String", "indexOf", "(I)I"⟩ : MethodName)) (wd hw 45 rfl) (wd hw 46 rfl) (wd hw 48 rfl) (wd hw 47 rfl) (W0.nf (wd hw 48 rfl)) (by decide) (Wd := 2) (CN.back (rmIx0 l Z a0 hw cz a (58 : Int32) ([y0, y1, y2, (58 : Int32), y4] : List Int32) 3 h0 W0.old hCS hcz Sa (ala hy0 (ala hy1 (ala hy2 (ala (C8.of (by decide)) (ala hy4 (ala0)))))) (C8.of (by decide)) (Nat.le_of_ble_eq_true rfl) (nallS (nallS (nallS nall0 ny0) ny1) ny2) (fun _ => rfl)) W0.warm (wd hw 49 rfl) (wd hw 14 rfl) (by decide) (by decide)) Sa.exa (by rw [hml]; rfl) [(.int (58 : Int32))] [(.int (0 : Int32)), (.ref a)] (lenOf pd13 rfl) rfl rfl (Nat.le_of_eq rfl) 8 (hb hby d10_5) rfl (by decide) (by decide) (fun _ q => nomatch q) ?_
  intro v101 T101 h101 W101 K101 Ch101 Q101
  have H101 := W101.here; have z101 := K101.1
  obtain ⟨rfl, eh101⟩ := Q101
  show Goes p e below (PostN s Z h0 [] (QDm5_3 Z cz fm a y0 y1 y2 y4 h0) ({ frames := 5, cells := 2, slots := 12, locals := 170 } : Room).cells ({ frames := 5, cells := 2, slots := 12, locals := 170 } : Room).slots) (T101.setTop (mkF m 8 #[.val (.ref a)] [(.int (if 3 < ([y0, y1, y2, (58 : Int32), y4] : List Int32).length then Int32.ofNat 3 else -1)), (.int (0 : Int32)), (.ref a)]))
  rw [show (if 3 < ([y0, y1, y2, (58 : Int32), y4] : List Int32).length then Int32.ofNat 3 else -1) = (3 : Int32) from rfl]
  show Goes p e below (PostN s Z h0 [] (QDm5_3 Z cz fm a y0 y1 y2 y4 h0) ({ frames := 5, cells := 2, slots := 12, locals := 170 } : Room).cells ({ frames := 5, cells := 2, slots := 12, locals := 170 } : Room).slots) (T101.setTop (mkF m 8 #[.val (.ref a)] [(.int (3 : Int32)), (.int (0 : Int32)), (.ref a)]))
  refine Wk.virtual W101 hx hoZ (y := (⟨"java/lang/String", "substring", "(II)Ljava/lang/String;"⟩ : MethodName)) (z := (⟨"java/lang/String", "substring", "(II)Ljava/lang/String;"⟩ : MethodName)) (wd hw 87 rfl) (wd hw 88 rfl) (wd hw 90 rfl) (wd hw 89 rfl) (W101.nf (wd hw 90 rfl)) (by decide) (Wd := 0) (CN.back (rmSub l Z a0 hw cz fm a (0 : Int32) (3 : Int32) (5 : Int32) ([y0, y1, y2, (58 : Int32), y4] : List Int32) ([y0, y1, y2] : List Int32) h101 W101.old hCS hcz hFM hfm (Sa.keepX K101 ala0) (ala hy0 (ala hy1 (ala hy2 (ala (C8.of (by decide)) (ala hy4 (ala0)))))) rfl (by decide) (by decide) (by decide) (by decide) (by decide) (by decide) (by decide) (by decide) (by decide) rfl (show (3 : Int32) - (0 : Int32) = Int32.ofNat 3 from by decide) (ala hy0 (ala hy1 (ala hy2 (ala0)))) (Nat.le_of_ble_eq_true rfl)) W101.warm (wd hw 91 rfl) (wd hw 14 rfl) (by decide) (by decide)) (Sa.exa.keep K101) (by rw [hml]; rfl) [(.int (0 : Int32)), (.int (3 : Int32))] [] (lenOf pd14 rfl) rfl rfl (Nat.le_of_eq rfl) 11 (hb hby d10_8) rfl (by decide) (by decide) (fun _ q => nomatch q) ?_
  intro v102 T102 h102 W102 K102 Ch102 Q102
  have H102 := W102.here; have z102 := K102.1
  obtain ⟨a102, rfl, g102, Sv102⟩ := Q102; have l102 := ltN Sv102.lt
  show Goes p e below (PostN s Z h0 [] (QDm5_3 Z cz fm a y0 y1 y2 y4 h0) ({ frames := 5, cells := 2, slots := 12, locals := 170 } : Room).cells ({ frames := 5, cells := 2, slots := 12, locals := 170 } : Room).slots) (T102.setTop (mkF m 11 #[.val (.ref a)] [(.ref a102)]))
  exact Wk.retA W102 hx (t := (.object "java/lang/String")) rfl rfl hret hlk (hb hby d10_11) (by decide) (by decide) ⟨_, rfl, by omega, Sv102⟩
def QDm6_3 (Z : State) (cz : Int32) (fm : Value) (a : Addr) (y0 : Int32) (y1 : Int32) (y2 : Int32) (y4 : Int32) (y5 : Int32) (h0 : Heap) : Option Value → Heap → Prop := fun v h => ∃ r : Addr, v = some (.ref r) ∧ h0.size ≤ r ∧ SV Z h r [y0, y1, y2]
set_option maxRecDepth 65536 in
set_option maxHeartbeats 40000000 in
theorem rmDm6_3 (l : Launch) (Z : State) (a0 : Array Value) (hw : ∀ d ∈ tables_1, d.before a0 Z = true) (cz : Int32) (fm : Value) (a : Addr) (y0 : Int32) (y1 : Int32) (y2 : Int32) (y4 : Int32) (y5 : Int32) (h0 : Heap) (O : Ext Z.heap h0) (hCS : Sta Z Z.heap "java/lang/String" "COMPACT_STRINGS" "Z" (.int cz)) (hcz : ¬ cz = 0) (hFM : Sta Z Z.heap "jdk/internal/util/Preconditions" "SIOOBE_FORMATTER" "Ljava/util/function/BiFunction;" fm) (hfm : fm.isRef = true) (Sa : SV Z h0 a [y0, y1, y2, (58 : Int32), y4, y5]) (hy0 : C8 y0) (hy1 : C8 y1) (hy2 : C8 y2) (hy4 : C8 y4) (hy5 : C8 y5) (ny0 : ¬ y0 = 58) (ny1 : ¬ y1 = 58) (ny2 : ¬ y2 = 58) :
    CN [] l Z (⟨"com/example/federation/federation/Names", "domainOf", "(Ljava/lang/String;)Ljava/lang/String;"⟩ : MethodName) prog_26_method_5_code 1 (Option.some (Jvm.ClassFile.FieldType.object "java/lang/String")) ({ frames := 5, cells := 2, slots := 12, locals := 170 } : Room) #[(.ref a)] h0 [] (QDm6_3 Z cz fm a y0 y1 y2 y4 y5 h0) := by
  refine CN.of_walk (plainFor_of_name pn5) O (fun _ q => nomatch q) ?_
  intro p e s m below meth c T0 W0 hx hby hml hoZ hnm hret hlk
  have H0 := W0.here; have hz0 := W0.zsize
  refine Goes.cast (ef1 m a) ?_
  refine G.aloadN H0 hx 1 (hb hby d10_0) rfl rfl rfl ?_
  refine G.iconst H0 hx 2 (0 : Int32) (hb hby d10_1) rfl rfl ?_
  refine G.aloadN H0 hx 3 (hb hby d10_2) rfl rfl rfl ?_
  refine G.bipush H0 hx 5 (58 : Int32) (hb hby d10_3) rfl rfl ?_
  refine Wk.virtual W0 hx hoZ (y := (⟨"java/lang/String", "indexOf", "(I)I"⟩ : MethodName)) (z := (⟨"java/lang/String", "indexOf", "(I)I"⟩ : MethodName)) (wd hw 45 rfl) (wd hw 46 rfl) (wd hw 48 rfl) (wd hw 47 rfl) (W0.nf (wd hw 48 rfl)) (by decide) (Wd := 2) (CN.back (rmIx0 l Z a0 hw cz a (58 : Int32) ([y0, y1, y2, (58 : Int32), y4, y5] : List Int32) 3 h0 W0.old hCS hcz Sa (ala hy0 (ala hy1 (ala hy2 (ala (C8.of (by decide)) (ala hy4 (ala hy5 (ala0))))))) (C8.of (by decide)) (Nat.le_of_ble_eq_true rfl) (nallS (nallS (nallS nall0 ny0) ny1) ny2) (fun _ => rfl)) W0.warm (wd hw 49 rfl) (wd hw 14 rfl) (by decide) (by decide)) Sa.exa (by rw [hml]; rfl) [(.int (58 : Int32))] [(.int (0 : Int32)), (.ref a)] (lenOf pd13 rfl) rfl rfl (Nat.le_of_eq rfl) 8 (hb hby d10_5) rfl (by decide) (by decide) (fun _ q => nomatch q) ?_
  intro v101 T101 h101 W101 K101 Ch101 Q101
  have H101 := W101.here; have z101 := K101.1
  obtain ⟨rfl, eh101⟩ := Q101
  show Goes p e below (PostN s Z h0 [] (QDm6_3 Z cz fm a y0 y1 y2 y4 y5 h0) ({ frames := 5, cells := 2, slots := 12, locals := 170 } : Room).cells ({ frames := 5, cells := 2, slots := 12, locals := 170 } : Room).slots) (T101.setTop (mkF m 8 #[.val (.ref a)] [(.int (if 3 < ([y0, y1, y2, (58 : Int32), y4, y5] : List Int32).length then Int32.ofNat 3 else -1)), (.int (0 : Int32)), (.ref a)]))
  rw [show (if 3 < ([y0, y1, y2, (58 : Int32), y4, y5] : List Int32).length then Int32.ofNat 3 else -1) = (3 : Int32) from rfl]
  show Goes p e below (PostN s Z h0 [] (QDm6_3 Z cz fm a y0 y1 y2 y4 y5 h0) ({ frames := 5, cells := 2, slots := 12, locals := 170 } : Room).cells ({ frames := 5, cells := 2, slots := 12, locals := 170 } : Room).slots) (T101.setTop (mkF m 8 #[.val (.ref a)] [(.int (3 : Int32)), (.int (0 : Int32)), (.ref a)]))
  refine Wk.virtual W101 hx hoZ (y := (⟨"java/lang/String", "substring", "(II)Ljava/lang/String;"⟩ : MethodName)) (z := (⟨"java/lang/String", "substring", "(II)Ljava/lang/String;"⟩ : MethodName)) (wd hw 87 rfl) (wd hw 88 rfl) (wd hw 90 rfl) (wd hw 89 rfl) (W101.nf (wd hw 90 rfl)) (by decide) (Wd := 0) (CN.back (rmSub l Z a0 hw cz fm a (0 : Int32) (3 : Int32) (6 : Int32) ([y0, y1, y2, (58 : Int32), y4, y5] : List Int32) ([y0, y1, y2] : List Int32) h101 W101.old hCS hcz hFM hfm (Sa.keepX K101 ala0) (ala hy0 (ala hy1 (ala hy2 (ala (C8.of (by decide)) (ala hy4 (ala hy5 (ala0))))))) rfl (by decide) (by decide) (by decide) (by decide) (by decide) (by decide) (by decide) (by decide) (by decide) rfl (show (3 : Int32) - (0 : Int32) = Int32.ofNat 3 from by decide) (ala hy0 (ala hy1 (ala hy2 (ala0)))) (Nat.le_of_ble_eq_true rfl)) W101.warm (wd hw 91 rfl) (wd hw 14 rfl) (by decide) (by decide)) (Sa.exa.keep K101) (by rw [hml]; rfl) [(.int (0 : Int32)), (.int (3 : Int32))] [] (lenOf pd14 rfl) rfl rfl (Nat.le_of_eq rfl) 11 (hb hby d10_8) rfl (by decide) (by decide) (fun _ q => nomatch q) ?_
  intro v102 T102 h102 W102 K102 Ch102 Q102
  have H102 := W102.here; have z102 := K102.1
  obtain ⟨a102, rfl, g102, Sv102⟩ := Q102; have l102 := ltN Sv102.lt
  show Goes p e below (PostN s Z h0 [] (QDm6_3 Z cz fm a y0 y1 y2 y4 y5 h0) ({ frames := 5, cells := 2, slots := 12, locals := 170 } : Room).cells ({ frames := 5, cells := 2, slots := 12, locals := 170 } : Room).slots) (T102.setTop (mkF m 11 #[.val (.ref a)] [(.ref a102)]))
  exact Wk.retA W102 hx (t := (.object "java/lang/String")) rfl rfl hret hlk (hb hby d10_11) (by decide) (by decide) ⟨_, rfl, by omega, Sv102⟩
def QDm6_4 (Z : State) (cz : Int32) (fm : Value) (a : Addr) (y0 : Int32) (y1 : Int32) (y2 : Int32) (y3 : Int32) (y5 : Int32) (h0 : Heap) : Option Value → Heap → Prop := fun v h => ∃ r : Addr, v = some (.ref r) ∧ h0.size ≤ r ∧ SV Z h r [y0, y1, y2, y3]
set_option maxRecDepth 65536 in
set_option maxHeartbeats 40000000 in
theorem rmDm6_4 (l : Launch) (Z : State) (a0 : Array Value) (hw : ∀ d ∈ tables_1, d.before a0 Z = true) (cz : Int32) (fm : Value) (a : Addr) (y0 : Int32) (y1 : Int32) (y2 : Int32) (y3 : Int32) (y5 : Int32) (h0 : Heap) (O : Ext Z.heap h0) (hCS : Sta Z Z.heap "java/lang/String" "COMPACT_STRINGS" "Z" (.int cz)) (hcz : ¬ cz = 0) (hFM : Sta Z Z.heap "jdk/internal/util/Preconditions" "SIOOBE_FORMATTER" "Ljava/util/function/BiFunction;" fm) (hfm : fm.isRef = true) (Sa : SV Z h0 a [y0, y1, y2, y3, (58 : Int32), y5]) (hy0 : C8 y0) (hy1 : C8 y1) (hy2 : C8 y2) (hy3 : C8 y3) (hy5 : C8 y5) (ny0 : ¬ y0 = 58) (ny1 : ¬ y1 = 58) (ny2 : ¬ y2 = 58) (ny3 : ¬ y3 = 58) :
    CN [] l Z (⟨"com/example/federation/federation/Names", "domainOf", "(Ljava/lang/String;)Ljava/lang/String;"⟩ : MethodName) prog_26_method_5_code 1 (Option.some (Jvm.ClassFile.FieldType.object "java/lang/String")) ({ frames := 5, cells := 2, slots := 12, locals := 170 } : Room) #[(.ref a)] h0 [] (QDm6_4 Z cz fm a y0 y1 y2 y3 y5 h0) := by
  refine CN.of_walk (plainFor_of_name pn5) O (fun _ q => nomatch q) ?_
  intro p e s m below meth c T0 W0 hx hby hml hoZ hnm hret hlk
  have H0 := W0.here; have hz0 := W0.zsize
  refine Goes.cast (ef1 m a) ?_
  refine G.aloadN H0 hx 1 (hb hby d10_0) rfl rfl rfl ?_
  refine G.iconst H0 hx 2 (0 : Int32) (hb hby d10_1) rfl rfl ?_
  refine G.aloadN H0 hx 3 (hb hby d10_2) rfl rfl rfl ?_
  refine G.bipush H0 hx 5 (58 : Int32) (hb hby d10_3) rfl rfl ?_
  refine Wk.virtual W0 hx hoZ (y := (⟨"java/lang/String", "indexOf", "(I)I"⟩ : MethodName)) (z := (⟨"java/lang/String", "indexOf", "(I)I"⟩ : MethodName)) (wd hw 45 rfl) (wd hw 46 rfl) (wd hw 48 rfl) (wd hw 47 rfl) (W0.nf (wd hw 48 rfl)) (by decide) (Wd := 2) (CN.back (rmIx0 l Z a0 hw cz a (58 : Int32) ([y0, y1, y2, y3, (58 : Int32), y5] : List Int32) 4 h0 W0.old hCS hcz Sa (ala hy0 (ala hy1 (ala hy2 (ala hy3 (ala (C8.of (by decide)) (ala hy5 (ala0))))))) (C8.of (by decide)) (Nat.le_of_ble_eq_true rfl) (nallS (nallS (nallS (nallS nall0 ny0) ny1) ny2) ny3) (fun _ => rfl)) W0.warm (wd hw 49 rfl) (wd hw 14 rfl) (by decide) (by decide)) Sa.exa (by rw [hml]; rfl) [(.int (58 : Int32))] [(.int (0 : Int32)), (.ref a)] (lenOf pd13 rfl) rfl rfl (Nat.le_of_eq rfl) 8 (hb hby d10_5) rfl (by decide) (by decide) (fun _ q => nomatch q) ?_
  intro v101 T101 h101 W101 K101 Ch101 Q101
  have H101 := W101.here; have z101 := K101.1
  obtain ⟨rfl, eh101⟩ := Q101
  show Goes p e below (PostN s Z h0 [] (QDm6_4 Z cz fm a y0 y1 y2 y3 y5 h0) ({ frames := 5, cells := 2, slots := 12, locals := 170 } : Room).cells ({ frames := 5, cells := 2, slots := 12, locals := 170 } : Room).slots) (T101.setTop (mkF m 8 #[.val (.ref a)] [(.int (if 4 < ([y0, y1, y2, y3, (58 : Int32), y5] : List Int32).length then Int32.ofNat 4 else -1)), (.int (0 : Int32)), (.ref a)]))
  rw [show (if 4 < ([y0, y1, y2, y3, (58 : Int32), y5] : List Int32).length then Int32.ofNat 4 else -1) = (4 : Int32) from rfl]
  show Goes p e below (PostN s Z h0 [] (QDm6_4 Z cz fm a y0 y1 y2 y3 y5 h0) ({ frames := 5, cells := 2, slots := 12, locals := 170 } : Room).cells ({ frames := 5, cells := 2, slots := 12, locals := 170 } : Room).slots) (T101.setTop (mkF m 8 #[.val (.ref a)] [(.int (4 : Int32)), (.int (0 : Int32)), (.ref a)]))
  refine Wk.virtual W101 hx hoZ (y := (⟨"java/lang/String", "substring", "(II)Ljava/lang/String;"⟩ : MethodName)) (z := (⟨"java/lang/String", "substring", "(II)Ljava/lang/String;"⟩ : MethodName)) (wd hw 87 rfl) (wd hw 88 rfl) (wd hw 90 rfl) (wd hw 89 rfl) (W101.nf (wd hw 90 rfl)) (by decide) (Wd := 0) (CN.back (rmSub l Z a0 hw cz fm a (0 : Int32) (4 : Int32) (6 : Int32) ([y0, y1, y2, y3, (58 : Int32), y5] : List Int32) ([y0, y1, y2, y3] : List Int32) h101 W101.old hCS hcz hFM hfm (Sa.keepX K101 ala0) (ala hy0 (ala hy1 (ala hy2 (ala hy3 (ala (C8.of (by decide)) (ala hy5 (ala0))))))) rfl (by decide) (by decide) (by decide) (by decide) (by decide) (by decide) (by decide) (by decide) (by decide) rfl (show (4 : Int32) - (0 : Int32) = Int32.ofNat 4 from by decide) (ala hy0 (ala hy1 (ala hy2 (ala hy3 (ala0))))) (Nat.le_of_ble_eq_true rfl)) W101.warm (wd hw 91 rfl) (wd hw 14 rfl) (by decide) (by decide)) (Sa.exa.keep K101) (by rw [hml]; rfl) [(.int (0 : Int32)), (.int (4 : Int32))] [] (lenOf pd14 rfl) rfl rfl (Nat.le_of_eq rfl) 11 (hb hby d10_8) rfl (by decide) (by decide) (fun _ q => nomatch q) ?_
  intro v102 T102 h102 W102 K102 Ch102 Q102
  have H102 := W102.here; have z102 := K102.1
  obtain ⟨a102, rfl, g102, Sv102⟩ := Q102; have l102 := ltN Sv102.lt
  show Goes p e below (PostN s Z h0 [] (QDm6_4 Z cz fm a y0 y1 y2 y3 y5 h0) ({ frames := 5, cells := 2, slots := 12, locals := 170 } : Room).cells ({ frames := 5, cells := 2, slots := 12, locals := 170 } : Room).slots) (T102.setTop (mkF m 11 #[.val (.ref a)] [(.ref a102)]))
  exact Wk.retA W102 hx (t := (.object "java/lang/String")) rfl rfl hret hlk (hb hby d10_11) (by decide) (by decide) ⟨_, rfl, by omega, Sv102⟩
def QDm7_4 (Z : State) (cz : Int32) (fm : Value) (a : Addr) (y0 : Int32) (y1 : Int32) (y2 : Int32) (y3 : Int32) (y5 : Int32) (y6 : Int32) (h0 : Heap) : Option Value → Heap → Prop := fun v h => ∃ r : Addr, v = some (.ref r) ∧ h0.size ≤ r ∧ SV Z h r [y0, y1, y2, y3]
set_option maxRecDepth 65536 in
set_option maxHeartbeats 40000000 in
theorem rmDm7_4 (l : Launch) (Z : State) (a0 : Array Value) (hw : ∀ d ∈ tables_1, d.before a0 Z = true) (cz : Int32) (fm : Value) (a : Addr) (y0 : Int32) (y1 : Int32) (y2 : Int32) (y3 : Int32) (y5 : Int32) (y6 : Int32) (h0 : Heap) (O : Ext Z.heap h0) (hCS : Sta Z Z.heap "java/lang/String" "COMPACT_STRINGS" "Z" (.int cz)) (hcz : ¬ cz = 0) (hFM : Sta Z Z.heap "jdk/internal/util/Preconditions" "SIOOBE_FORMATTER" "Ljava/util/function/BiFunction;" fm) (hfm : fm.isRef = true) (Sa : SV Z h0 a [y0, y1, y2, y3, (58 : Int32), y5, y6]) (hy0 : C8 y0) (hy1 : C8 y1) (hy2 : C8 y2) (hy3 : C8 y3) (hy5 : C8 y5) (hy6 : C8 y6) (ny0 : ¬ y0 = 58) (ny1 : ¬ y1 = 58) (ny2 : ¬ y2 = 58) (ny3 : ¬ y3 = 58) :
    CN [] l Z (⟨"com/example/federation/federation/Names", "domainOf", "(Ljava/lang/String;)Ljava/lang/String;"⟩ : MethodName) prog_26_method_5_code 1 (Option.some (Jvm.ClassFile.FieldType.object "java/lang/String")) ({ frames := 5, cells := 2, slots := 12, locals := 170 } : Room) #[(.ref a)] h0 [] (QDm7_4 Z cz fm a y0 y1 y2 y3 y5 y6 h0) := by
  refine CN.of_walk (plainFor_of_name pn5) O (fun _ q => nomatch q) ?_
  intro p e s m below meth c T0 W0 hx hby hml hoZ hnm hret hlk
  have H0 := W0.here; have hz0 := W0.zsize
  refine Goes.cast (ef1 m a) ?_
  refine G.aloadN H0 hx 1 (hb hby d10_0) rfl rfl rfl ?_
  refine G.iconst H0 hx 2 (0 : Int32) (hb hby d10_1) rfl rfl ?_
  refine G.aloadN H0 hx 3 (hb hby d10_2) rfl rfl rfl ?_
  refine G.bipush H0 hx 5 (58 : Int32) (hb hby d10_3) rfl rfl ?_
  refine Wk.virtual W0 hx hoZ (y := (⟨"java/lang/String", "indexOf", "(I)I"⟩ : MethodName)) (z := (⟨"java/lang/String", "indexOf", "(I)I"⟩ : MethodName)) (wd hw 45 rfl) (wd hw 46 rfl) (wd hw 48 rfl) (wd hw 47 rfl) (W0.nf (wd hw 48 rfl)) (by decide) (Wd := 2) (CN.back (rmIx0 l Z a0 hw cz a (58 : Int32) ([y0, y1, y2, y3, (58 : Int32), y5, y6] : List Int32) 4 h0 W0.old hCS hcz Sa (ala hy0 (ala hy1 (ala hy2 (ala hy3 (ala (C8.of (by decide)) (ala hy5 (ala hy6 (ala0)))))))) (C8.of (by decide)) (Nat.le_of_ble_eq_true rfl) (nallS (nallS (nallS (nallS nall0 ny0) ny1) ny2) ny3) (fun _ => rfl)) W0.warm (wd hw 49 rfl) (wd hw 14 rfl) (by decide) (by decide)) Sa.exa (by rw [hml]; rfl) [(.int (58 : Int32))] [(.int (0 : Int32)), (.ref a)] (lenOf pd13 rfl) rfl rfl (Nat.le_of_eq rfl) 8 (hb hby d10_5) rfl (by decide) (by decide) (fun _ q => nomatch q) ?_
  intro v101 T101 h101 W101 K101 Ch101 Q101
  have H101 := W101.here; have z101 := K101.1
  obtain ⟨rfl, eh101⟩ := Q101
  show Goes p e below (PostN s Z h0 [] (QDm7_4 Z cz fm a y0 y1 y2 y3 y5 y6 h0) ({ frames := 5, cells := 2, slots := 12, locals := 170 } : Room).cells ({ frames := 5, cells := 2, slots := 12, locals := 170 } : Room).slots) (T101.setTop (mkF m 8 #[.val (.ref a)] [(.int (if 4 < ([y0, y1, y2, y3, (58 : Int32), y5, y6] : List Int32).length then Int32.ofNat 4 else -1)), (.int (0 : Int32)), (.ref a)]))
  rw [show (if 4 < ([y0, y1, y2, y3, (58 : Int32), y5, y6] : List Int32).length then Int32.ofNat 4 else -1) = (4 : Int32) from rfl]
  show Goes p e below (PostN s Z h0 [] (QDm7_4 Z cz fm a y0 y1 y2 y3 y5 y6 h0) ({ frames := 5, cells := 2, slots := 12, locals := 170 } : Room).cells ({ frames := 5, cells := 2, slots := 12, locals := 170 } : Room).slots) (T101.setTop (mkF m 8 #[.val (.ref a)] [(.int (4 : Int32)), (.int (0 : Int32)), (.ref a)]))
  refine Wk.virtual W101 hx hoZ (y := (⟨"java/lang/String", "substring", "(II)Ljava/lang/String;"⟩ : MethodName)) (z := (⟨"java/lang/String", "substring", "(II)Ljava/lang/String;"⟩ : MethodName)) (wd hw 87 rfl) (wd hw 88 rfl) (wd hw 90 rfl) (wd hw 89 rfl) (W101.nf (wd hw 90 rfl)) (by decide) (Wd := 0) (CN.back (rmSub l Z a0 hw cz fm a (0 : Int32) (4 : Int32) (7 : Int32) ([y0, y1, y2, y3, (58 : Int32), y5, y6] : List Int32) ([y0, y1, y2, y3] : List Int32) h101 W101.old hCS hcz hFM hfm (Sa.keepX K101 ala0) (ala hy0 (ala hy1 (ala hy2 (ala hy3 (ala (C8.of (by decide)) (ala hy5 (ala hy6 (ala0)))))))) rfl (by decide) (by decide) (by decide) (by decide) (by decide) (by decide) (by decide) (by decide) (by decide) rfl (show (4 : Int32) - (0 : Int32) = Int32.ofNat 4 from by decide) (ala hy0 (ala hy1 (ala hy2 (ala hy3 (ala0))))) (Nat.le_of_ble_eq_true rfl)) W101.warm (wd hw 91 rfl) (wd hw 14 rfl) (by decide) (by decide)) (Sa.exa.keep K101) (by rw [hml]; rfl) [(.int (0 : Int32)), (.int (4 : Int32))] [] (lenOf pd14 rfl) rfl rfl (Nat.le_of_eq rfl) 11 (hb hby d10_8) rfl (by decide) (by decide) (fun _ q => nomatch q) ?_
  intro v102 T102 h102 W102 K102 Ch102 Q102
  have H102 := W102.here; have z102 := K102.1
  obtain ⟨a102, rfl, g102, Sv102⟩ := Q102; have l102 := ltN Sv102.lt
  show Goes p e below (PostN s Z h0 [] (QDm7_4 Z cz fm a y0 y1 y2 y3 y5 y6 h0) ({ frames := 5, cells := 2, slots := 12, locals := 170 } : Room).cells ({ frames := 5, cells := 2, slots := 12, locals := 170 } : Room).slots) (T102.setTop (mkF m 11 #[.val (.ref a)] [(.ref a102)]))
  exact Wk.retA W102 hx (t := (.object "java/lang/String")) rfl rfl hret hlk (hb hby d10_11) (by decide) (by decide) ⟨_, rfl, by omega, Sv102⟩
def Q0 (Z : State) (cz : Int32) (fm : Value) (p0 : Int64) (p1 : Int32) (p2 : Int32) (h0 : Heap) : Option Value → Heap → Prop := fun v h => v = some (.int 1)
set_option maxRecDepth 65536 in
set_option maxHeartbeats 40000000 in
theorem rm0 (l : Launch) (Z : State) (a0 : Array Value) (hw : ∀ d ∈ tables_1, d.before a0 Z = true) (cz : Int32) (fm : Value) (p0 : Int64) (p1 : Int32) (p2 : Int32) (h0 : Heap) (O : Ext Z.heap h0) (hCS : Sta Z Z.heap "java/lang/String" "COMPACT_STRINGS" "Z" (.int cz)) (hcz : ¬ cz = 0) (hFM : Sta Z Z.heap "jdk/internal/util/Preconditions" "SIOOBE_FORMATTER" "Ljava/util/function/BiFunction;" fm) (hfm : fm.isRef = true) :
    CN tables_1 l Z x code maxLocals ret room_1 #[(.long p0), (.int p1), (.int p2)] h0 [] (Q0 Z cz fm p0 p1 p2 h0) := by
  refine CN.of_walk (plainFor_of_name pn0) O (fun _ q => nomatch q) ?_
  intro p e s m below meth c T0 W0 hx hby hml hoZ hnm hret hlk
  have H0 := W0.here; have hz0 := W0.zsize
  refine Goes.cast (ef12 m p0 p1 p2) ?_
  refine G.iconst H0 hx 1 (1 : Int32) (hb hby at_0) rfl rfl ?_
  refine G.iloadN H0 hx 2 (hb hby at_1) rfl rfl ?_
  refine G.iconst H0 hx 3 (3 : Int32) (hb hby at_2) rfl rfl ?_
  refine G.iand H0 hx 4 (hb hby at_3) rfl ?_
  refine G.iadd H0 hx 5 (hb hby at_4) rfl ?_
  refine G.istore H0 hx 7 (fun v => #[.val (.long p0), .second, .val (.int p1), .val (.int p2), .val (.int v), .unset, .unset, .unset, .unset, .unset, .unset, .unset, .unset, .unset, .unset, .unset, .unset]) (hb hby at_5) (fun _ => rfl) rfl ?_
  intro v101 hv101
  refine G.iconst H0 hx 8 (1 : Int32) (hb hby at_7) rfl rfl ?_
  refine G.iloadN H0 hx 9 (hb hby at_8) rfl rfl ?_
  refine G.iconst H0 hx 10 (2 : Int32) (hb hby at_9) rfl rfl ?_
  refine G.iushr H0 hx 11 (hb hby at_10) rfl ?_
  refine G.iconst H0 hx 12 (1 : Int32) (hb hby at_11) rfl rfl ?_
  refine G.iand H0 hx 13 (hb hby at_12) rfl ?_
  refine G.iadd H0 hx 14 (hb hby at_13) rfl ?_
  refine G.istore H0 hx 16 (fun v => #[.val (.long p0), .second, .val (.int p1), .val (.int p2), .val (.int v101), .val (.int v), .unset, .unset, .unset, .unset, .unset, .unset, .unset, .unset, .unset, .unset, .unset]) (hb hby at_14) (fun _ => rfl) rfl ?_
  intro v102 hv102
  refine G.lloadN H0 hx 17 (hb hby at_16) rfl rfl ?_
  refine G.l2i H0 hx 18 (hb hby at_17) rfl ?_
  refine Wk.callS W0 hx hoZ (y := (⟨"com/example/federation/federation/NamesDomainOfPinLaw", "letter", "(I)C"⟩ : MethodName)) (wd hw 0 rfl) (wd hw 1 rfl) (wd hw 2 rfl) (wd hw 3 rfl) (by decide) (Wd := 0) (CN.back (rmletter l Z a0 hw p0.toInt32 h0 W0.old ) W0.warm (wd hw 3 rfl) (wd hw 2 rfl) (by decide) (by decide)) (by rw [hml]; rfl) [(.int p0.toInt32)] [] (lenOf pd0 rfl) rfl rfl (Nat.le_of_eq rfl) 21 (hb hby at_18) rfl (by decide) (by decide) (fun _ q => nomatch q) ?_
  intro v103 T103 h103 W103 K103 Ch103 Q103
  have H103 := W103.here; have z103 := K103.1
  obtain ⟨rfl, eh103⟩ := Q103
  show Goes p e below (PostN s Z h0 [] (Q0 Z cz fm p0 p1 p2 h0) room_1.cells room_1.slots) (T103.setTop (mkF m 21 #[.val (.long p0), .second, .val (.int p1), .val (.int p2), .val (.int v101), .val (.int v102), .unset, .unset, .unset, .unset, .unset, .unset, .unset, .unset, .unset, .unset, .unset] [(.int (f_letter p0.toInt32))]))
  refine G.istore H103 hx 23 (fun v => #[.val (.long p0), .second, .val (.int p1), .val (.int p2), .val (.int v101), .val (.int v102), .val (.int v), .unset, .unset, .unset, .unset, .unset, .unset, .unset, .unset, .unset, .unset]) (hb hby at_21) (fun _ => rfl) rfl ?_
  intro v104 hv104
  refine G.lloadN H103 hx 24 (hb hby at_23) rfl rfl ?_
  refine G.bipush H103 hx 26 (16 : Int32) (hb hby at_24) rfl rfl ?_
  refine G.lushr H103 hx 27 (hb hby at_26) rfl ?_
  refine G.l2i H103 hx 28 (hb hby at_27) rfl ?_
  refine Wk.callS W103 hx hoZ (y := (⟨"com/example/federation/federation/NamesDomainOfPinLaw", "nameChar", "(I)C"⟩ : MethodName)) (wd hw 5 rfl) (wd hw 6 rfl) (wd hw 2 rfl) (wd hw 7 rfl) (by decide) (Wd := 0) (CN.back (rmnameChar l Z a0 hw (XT.ushrL p0 (16 : Int32)).toInt32 h103 W103.old ) W103.warm (wd hw 7 rfl) (wd hw 2 rfl) (by decide) (by decide)) (by rw [hml]; rfl) [(.int (XT.ushrL p0 (16 : Int32)).toInt32)] [] (lenOf pd0 rfl) rfl rfl (Nat.le_of_eq rfl) 31 (hb hby at_28) rfl (by decide) (by decide) (fun _ q => nomatch q) ?_
  intro v105 T105 h105 W105 K105 Ch105 Q105
  have H105 := W105.here; have z105 := K105.1
  obtain ⟨rfl, eh105⟩ := Q105
  show Goes p e below (PostN s Z h0 [] (Q0 Z cz fm p0 p1 p2 h0) room_1.cells room_1.slots) (T105.setTop (mkF m 31 #[.val (.long p0), .second, .val (.int p1), .val (.int p2), .val (.int v101), .val (.int v102), .val (.int v104), .unset, .unset, .unset, .unset, .unset, .unset, .unset, .unset, .unset, .unset] [(.int (f_nameChar (XT.ushrL p0 (16 : Int32)).toInt32))]))
  refine G.istore H105 hx 33 (fun v => #[.val (.long p0), .second, .val (.int p1), .val (.int p2), .val (.int v101), .val (.int v102), .val (.int v104), .val (.int v), .unset, .unset, .unset, .unset, .unset, .unset, .unset, .unset, .unset]) (hb hby at_31) (fun _ => rfl) rfl ?_
  intro v106 hv106
  refine G.lloadN H105 hx 34 (hb hby at_33) rfl rfl ?_
  refine G.bipush H105 hx 36 (32 : Int32) (hb hby at_34) rfl rfl ?_
  refine G.lushr H105 hx 37 (hb hby at_36) rfl ?_
  refine G.l2i H105 hx 38 (hb hby at_37) rfl ?_
  refine Wk.callS W105 hx hoZ (y := (⟨"com/example/federation/federation/NamesDomainOfPinLaw", "nameChar", "(I)C"⟩ : MethodName)) (wd hw 5 rfl) (wd hw 6 rfl) (wd hw 2 rfl) (wd hw 7 rfl) (by decide) (Wd := 0) (CN.back (rmnameChar l Z a0 hw (XT.ushrL p0 (32 : Int32)).toInt32 h105 W105.old ) W105.warm (wd hw 7 rfl) (wd hw 2 rfl) (by decide) (by decide)) (by rw [hml]; rfl) [(.int (XT.ushrL p0 (32 : Int32)).toInt32)] [] (lenOf pd0 rfl) rfl rfl (Nat.le_of_eq rfl) 41 (hb hby at_38) rfl (by decide) (by decide) (fun _ q => nomatch q) ?_
  intro v107 T107 h107 W107 K107 Ch107 Q107
  have H107 := W107.here; have z107 := K107.1
  obtain ⟨rfl, eh107⟩ := Q107
  show Goes p e below (PostN s Z h0 [] (Q0 Z cz fm p0 p1 p2 h0) room_1.cells room_1.slots) (T107.setTop (mkF m 41 #[.val (.long p0), .second, .val (.int p1), .val (.int p2), .val (.int v101), .val (.int v102), .val (.int v104), .val (.int v106), .unset, .unset, .unset, .unset, .unset, .unset, .unset, .unset, .unset] [(.int (f_nameChar (XT.ushrL p0 (32 : Int32)).toInt32))]))
  refine G.istore H107 hx 43 (fun v => #[.val (.long p0), .second, .val (.int p1), .val (.int p2), .val (.int v101), .val (.int v102), .val (.int v104), .val (.int v106), .val (.int v), .unset, .unset, .unset, .unset, .unset, .unset, .unset, .unset]) (hb hby at_41) (fun _ => rfl) rfl ?_
  intro v108 hv108
  refine G.lloadN H107 hx 44 (hb hby at_43) rfl rfl ?_
  refine G.bipush H107 hx 46 (48 : Int32) (hb hby at_44) rfl rfl ?_
  refine G.lushr H107 hx 47 (hb hby at_46) rfl ?_
  refine G.l2i H107 hx 48 (hb hby at_47) rfl ?_
  refine Wk.callS W107 hx hoZ (y := (⟨"com/example/federation/federation/NamesDomainOfPinLaw", "nameChar", "(I)C"⟩ : MethodName)) (wd hw 5 rfl) (wd hw 6 rfl) (wd hw 2 rfl) (wd hw 7 rfl) (by decide) (Wd := 0) (CN.back (rmnameChar l Z a0 hw (XT.ushrL p0 (48 : Int32)).toInt32 h107 W107.old ) W107.warm (wd hw 7 rfl) (wd hw 2 rfl) (by decide) (by decide)) (by rw [hml]; rfl) [(.int (XT.ushrL p0 (48 : Int32)).toInt32)] [] (lenOf pd0 rfl) rfl rfl (Nat.le_of_eq rfl) 51 (hb hby at_48) rfl (by decide) (by decide) (fun _ q => nomatch q) ?_
  intro v109 T109 h109 W109 K109 Ch109 Q109
  have H109 := W109.here; have z109 := K109.1
  obtain ⟨rfl, eh109⟩ := Q109
  show Goes p e below (PostN s Z h0 [] (Q0 Z cz fm p0 p1 p2 h0) room_1.cells room_1.slots) (T109.setTop (mkF m 51 #[.val (.long p0), .second, .val (.int p1), .val (.int p2), .val (.int v101), .val (.int v102), .val (.int v104), .val (.int v106), .val (.int v108), .unset, .unset, .unset, .unset, .unset, .unset, .unset, .unset] [(.int (f_nameChar (XT.ushrL p0 (48 : Int32)).toInt32))]))
  refine G.istore H109 hx 53 (fun v => #[.val (.long p0), .second, .val (.int p1), .val (.int p2), .val (.int v101), .val (.int v102), .val (.int v104), .val (.int v106), .val (.int v108), .val (.int v), .unset, .unset, .unset, .unset, .unset, .unset, .unset]) (hb hby at_51) (fun _ => rfl) rfl ?_
  intro v110 hv110
  refine G.iloadN H109 hx 54 (hb hby at_53) rfl rfl ?_
  refine Wk.callS W109 hx hoZ (y := (⟨"com/example/federation/federation/NamesDomainOfPinLaw", "letter", "(I)C"⟩ : MethodName)) (wd hw 0 rfl) (wd hw 1 rfl) (wd hw 2 rfl) (wd hw 3 rfl) (by decide) (Wd := 0) (CN.back (rmletter l Z a0 hw p1 h109 W109.old ) W109.warm (wd hw 3 rfl) (wd hw 2 rfl) (by decide) (by decide)) (by rw [hml]; rfl) [(.int p1)] [] (lenOf pd0 rfl) rfl rfl (Nat.le_of_eq rfl) 57 (hb hby at_54) rfl (by decide) (by decide) (fun _ q => nomatch q) ?_
  intro v111 T111 h111 W111 K111 Ch111 Q111
  have H111 := W111.here; have z111 := K111.1
  obtain ⟨rfl, eh111⟩ := Q111
  show Goes p e below (PostN s Z h0 [] (Q0 Z cz fm p0 p1 p2 h0) room_1.cells room_1.slots) (T111.setTop (mkF m 57 #[.val (.long p0), .second, .val (.int p1), .val (.int p2), .val (.int v101), .val (.int v102), .val (.int v104), .val (.int v106), .val (.int v108), .val (.int v110), .unset, .unset, .unset, .unset, .unset, .unset, .unset] [(.int (f_letter p1))]))
  refine G.istore H111 hx 59 (fun v => #[.val (.long p0), .second, .val (.int p1), .val (.int p2), .val (.int v101), .val (.int v102), .val (.int v104), .val (.int v106), .val (.int v108), .val (.int v110), .val (.int v), .unset, .unset, .unset, .unset, .unset, .unset]) (hb hby at_57) (fun _ => rfl) rfl ?_
  intro v112 hv112
  refine G.iloadN H111 hx 60 (hb hby at_59) rfl rfl ?_
  refine G.bipush H111 hx 62 (16 : Int32) (hb hby at_60) rfl rfl ?_
  refine G.iushr H111 hx 63 (hb hby at_62) rfl ?_
  refine Wk.callS W111 hx hoZ (y := (⟨"com/example/federation/federation/NamesDomainOfPinLaw", "nameChar", "(I)C"⟩ : MethodName)) (wd hw 5 rfl) (wd hw 6 rfl) (wd hw 2 rfl) (wd hw 7 rfl) (by decide) (Wd := 0) (CN.back (rmnameChar l Z a0 hw (XT.ushr p1 (16 : Int32)) h111 W111.old ) W111.warm (wd hw 7 rfl) (wd hw 2 rfl) (by decide) (by decide)) (by rw [hml]; rfl) [(.int (XT.ushr p1 (16 : Int32)))] [] (lenOf pd0 rfl) rfl rfl (Nat.le_of_eq rfl) 66 (hb hby at_63) rfl (by decide) (by decide) (fun _ q => nomatch q) ?_
  intro v113 T113 h113 W113 K113 Ch113 Q113
  have H113 := W113.here; have z113 := K113.1
  obtain ⟨rfl, eh113⟩ := Q113
  show Goes p e below (PostN s Z h0 [] (Q0 Z cz fm p0 p1 p2 h0) room_1.cells room_1.slots) (T113.setTop (mkF m 66 #[.val (.long p0), .second, .val (.int p1), .val (.int p2), .val (.int v101), .val (.int v102), .val (.int v104), .val (.int v106), .val (.int v108), .val (.int v110), .val (.int v112), .unset, .unset, .unset, .unset, .unset, .unset] [(.int (f_nameChar (XT.ushr p1 (16 : Int32))))]))
  refine G.istore H113 hx 68 (fun v => #[.val (.long p0), .second, .val (.int p1), .val (.int p2), .val (.int v101), .val (.int v102), .val (.int v104), .val (.int v106), .val (.int v108), .val (.int v110), .val (.int v112), .val (.int v), .unset, .unset, .unset, .unset, .unset]) (hb hby at_66) (fun _ => rfl) rfl ?_
  intro v114 hv114
  refine G.iconst H113 hx 69 (4 : Int32) (hb hby at_68) rfl rfl ?_
  refine Wk.newP W113 hx (wd hw 8 rfl) 71 (hb hby at_69) (by decide) 4 (by decide) rfl (by decide) (by decide) (by decide) ?_
  intro T115 h115 a115 k115 W115 E115 g115 V115 S115
  have H115 := W115.here; have z115 := E115.1; have gu115 := Nat.le_of_eq g115; have gt115 := Nat.le_of_eq g115.symm; have l115 := ltN V115.lt
  have V115 : Arv Z h115 a115 k115 .char (4 : Int32) [(.int (0 : Int32)), (.int (0 : Int32)), (.int (0 : Int32)), (.int (0 : Int32))] (.int (0 : Int32)) := V115
  refine G.dup H115 hx 72 (hb hby at_71) rfl rfl ?_
  refine G.iconst H115 hx 73 (0 : Int32) (hb hby at_72) rfl rfl ?_
  refine G.iload H115 hx 75 (hb hby at_73) rfl rfl ?_
  refine Wk.castore W115 hx V115 (Or.inr (by omega)) v104 (nar_c16 (own_l1 hv104 : C8 v104 ∧ ¬ v104 = 58).1.up) 0 rfl ⟨by decide, by decide⟩ (Nat.le_of_ble_eq_true rfl) 76 (hb hby at_75) rfl ?_
  intro T116 h116 W116 K116 Ch116 V116; have H116 := W116.here; have z116 := K116.1
  have V116 : Arv Z h116 a115 k115 .char (4 : Int32) [(.int v104), (.int (0 : Int32)), (.int (0 : Int32)), (.int (0 : Int32))] (.int (0 : Int32)) := V116
  refine G.dup H116 hx 77 (hb hby at_76) rfl rfl ?_
  refine G.iconst H116 hx 78 (1 : Int32) (hb hby at_77) rfl rfl ?_
  refine G.iload H116 hx 80 (hb hby at_78) rfl rfl ?_
  refine Wk.castore W116 hx V116 (Or.inr (by omega)) v106 (nar_c16 (own_l2 hv106 : C8 v106 ∧ ¬ v106 = 58).1.up) 1 rfl ⟨by decide, by decide⟩ (Nat.le_of_ble_eq_true rfl) 81 (hb hby at_80) rfl ?_
  intro T117 h117 W117 K117 Ch117 V117; have H117 := W117.here; have z117 := K117.1
  have V117 : Arv Z h117 a115 k115 .char (4 : Int32) [(.int v104), (.int v106), (.int (0 : Int32)), (.int (0 : Int32))] (.int (0 : Int32)) := V117
  refine G.dup H117 hx 82 (hb hby at_81) rfl rfl ?_
  refine G.iconst H117 hx 83 (2 : Int32) (hb hby at_82) rfl rfl ?_
  refine G.iload H117 hx 85 (hb hby at_83) rfl rfl ?_
  refine Wk.castore W117 hx V117 (Or.inr (by omega)) v108 (nar_c16 (own_l2 hv108 : C8 v108 ∧ ¬ v108 = 58).1.up) 2 rfl ⟨by decide, by decide⟩ (Nat.le_of_ble_eq_true rfl) 86 (hb hby at_85) rfl ?_
  intro T118 h118 W118 K118 Ch118 V118; have H118 := W118.here; have z118 := K118.1
  have V118 : Arv Z h118 a115 k115 .char (4 : Int32) [(.int v104), (.int v106), (.int v108), (.int (0 : Int32))] (.int (0 : Int32)) := V118
  refine G.dup H118 hx 87 (hb hby at_86) rfl rfl ?_
  refine G.iconst H118 hx 88 (3 : Int32) (hb hby at_87) rfl rfl ?_
  refine G.iload H118 hx 90 (hb hby at_88) rfl rfl ?_
  refine Wk.castore W118 hx V118 (Or.inr (by omega)) v110 (nar_c16 (own_l2 hv110 : C8 v110 ∧ ¬ v110 = 58).1.up) 3 rfl ⟨by decide, by decide⟩ (Nat.le_of_ble_eq_true rfl) 91 (hb hby at_90) rfl ?_
  intro T119 h119 W119 K119 Ch119 V119; have H119 := W119.here; have z119 := K119.1
  have V119 : Arv Z h119 a115 k115 .char (4 : Int32) [(.int v104), (.int v106), (.int v108), (.int v110)] (.int (0 : Int32)) := V119
  refine G.astore H119 hx 93 #[.val (.long p0), .second, .val (.int p1), .val (.int p2), .val (.int v101), .val (.int v102), .val (.int v104), .val (.int v106), .val (.int v108), .val (.int v110), .val (.int v112), .val (.int v114), .val (.ref a115), .unset, .unset, .unset, .unset] (hb hby at_91) rfl rfl rfl ?_
  refine G.bipush H119 hx 95 (7 : Int32) (hb hby at_93) rfl rfl ?_
  refine Wk.newP W119 hx (wd hw 8 rfl) 97 (hb hby at_95) (by decide) 7 (by decide) rfl (by decide) (by decide) (by decide) ?_
  intro T120 h120 a120 k120 W120 E120 g120 V120 S120
  have H120 := W120.here; have z120 := E120.1; have gu120 := Nat.le_of_eq g120; have gt120 := Nat.le_of_eq g120.symm; have l120 := ltN V120.lt
  have V120 : Arv Z h120 a120 k120 .char (7 : Int32) [(.int (0 : Int32)), (.int (0 : Int32)), (.int (0 : Int32)), (.int (0 : Int32)), (.int (0 : Int32)), (.int (0 : Int32)), (.int (0 : Int32))] (.int (0 : Int32)) := V120
  refine G.astore H120 hx 99 #[.val (.long p0), .second, .val (.int p1), .val (.int p2), .val (.int v101), .val (.int v102), .val (.int v104), .val (.int v106), .val (.int v108), .val (.int v110), .val (.int v112), .val (.int v114), .val (.ref a115), .val (.ref a120), .unset, .unset, .unset] (hb hby at_97) rfl rfl rfl ?_
  refine G.aload H120 hx 101 (hb hby at_99) rfl rfl rfl ?_
  refine G.iconst H120 hx 102 (0 : Int32) (hb hby at_101) rfl rfl ?_
  refine G.iload H120 hx 104 (hb hby at_102) rfl rfl ?_
  refine Wk.castore W120 hx V120 (Or.inr (by omega)) v104 (nar_c16 (own_l1 hv104 : C8 v104 ∧ ¬ v104 = 58).1.up) 0 rfl ⟨by decide, by decide⟩ (Nat.le_of_ble_eq_true rfl) 105 (hb hby at_104) rfl ?_
  intro T121 h121 W121 K121 Ch121 V121; have H121 := W121.here; have z121 := K121.1
  have V121 : Arv Z h121 a120 k120 .char (7 : Int32) [(.int v104), (.int (0 : Int32)), (.int (0 : Int32)), (.int (0 : Int32)), (.int (0 : Int32)), (.int (0 : Int32)), (.int (0 : Int32))] (.int (0 : Int32)) := V121
  refine G.aload H121 hx 107 (hb hby at_105) rfl rfl rfl ?_
  refine G.iconst H121 hx 108 (1 : Int32) (hb hby at_107) rfl rfl ?_
  refine G.iload H121 hx 110 (hb hby at_108) rfl rfl ?_
  refine Wk.castore W121 hx V121 (Or.inr (by omega)) v106 (nar_c16 (own_l2 hv106 : C8 v106 ∧ ¬ v106 = 58).1.up) 1 rfl ⟨by decide, by decide⟩ (Nat.le_of_ble_eq_true rfl) 111 (hb hby at_110) rfl ?_
  intro T122 h122 W122 K122 Ch122 V122; have H122 := W122.here; have z122 := K122.1
  have V122 : Arv Z h122 a120 k120 .char (7 : Int32) [(.int v104), (.int v106), (.int (0 : Int32)), (.int (0 : Int32)), (.int (0 : Int32)), (.int (0 : Int32)), (.int (0 : Int32))] (.int (0 : Int32)) := V122
  refine G.aload H122 hx 113 (hb hby at_111) rfl rfl rfl ?_
  refine G.iconst H122 hx 114 (2 : Int32) (hb hby at_113) rfl rfl ?_
  refine G.iload H122 hx 116 (hb hby at_114) rfl rfl ?_
  refine Wk.castore W122 hx V122 (Or.inr (by omega)) v108 (nar_c16 (own_l2 hv108 : C8 v108 ∧ ¬ v108 = 58).1.up) 2 rfl ⟨by decide, by decide⟩ (Nat.le_of_ble_eq_true rfl) 117 (hb hby at_116) rfl ?_
  intro T123 h123 W123 K123 Ch123 V123; have H123 := W123.here; have z123 := K123.1
  have V123 : Arv Z h123 a120 k120 .char (7 : Int32) [(.int v104), (.int v106), (.int v108), (.int (0 : Int32)), (.int (0 : Int32)), (.int (0 : Int32)), (.int (0 : Int32))] (.int (0 : Int32)) := V123
  refine G.aload H123 hx 119 (hb hby at_117) rfl rfl rfl ?_
  refine G.iconst H123 hx 120 (3 : Int32) (hb hby at_119) rfl rfl ?_
  refine G.iload H123 hx 122 (hb hby at_120) rfl rfl ?_
  refine Wk.castore W123 hx V123 (Or.inr (by omega)) v110 (nar_c16 (own_l2 hv110 : C8 v110 ∧ ¬ v110 = 58).1.up) 3 rfl ⟨by decide, by decide⟩ (Nat.le_of_ble_eq_true rfl) 123 (hb hby at_122) rfl ?_
  intro T124 h124 W124 K124 Ch124 V124; have H124 := W124.here; have z124 := K124.1
  have V124 : Arv Z h124 a120 k120 .char (7 : Int32) [(.int v104), (.int v106), (.int v108), (.int v110), (.int (0 : Int32)), (.int (0 : Int32)), (.int (0 : Int32))] (.int (0 : Int32)) := V124
  rcases own_d hv101 with rfl | rfl | rfl | rfl
  ·
    rcases own_nl hv102 with rfl | rfl
    ·
      refine G.aload H124 hx 125 (hb hby at_123) rfl rfl rfl ?_
      refine G.iload H124 hx 127 (hb hby at_125) rfl rfl ?_
      refine G.bipush H124 hx 129 (58 : Int32) (hb hby at_127) rfl rfl ?_
      refine Wk.castore W124 hx V124 (Or.inr (by omega)) (58 : Int32) rfl 1 rfl ⟨by decide, by decide⟩ (Nat.le_of_ble_eq_true rfl) 130 (hb hby at_129) rfl ?_
      intro T125 h125 W125 K125 Ch125 V125; have H125 := W125.here; have z125 := K125.1
      have V125 : Arv Z h125 a120 k120 .char (7 : Int32) [(.int v104), (.int (58 : Int32)), (.int v108), (.int v110), (.int (0 : Int32)), (.int (0 : Int32)), (.int (0 : Int32))] (.int (0 : Int32)) := V125
      refine G.aload H125 hx 132 (hb hby at_130) rfl rfl rfl ?_
      refine G.iload H125 hx 134 (hb hby at_132) rfl rfl ?_
      refine G.iconst H125 hx 135 (1 : Int32) (hb hby at_134) rfl rfl ?_
      refine G.iaddF H125 hx 136 (2 : Int32) (hb hby at_135) (by decide) rfl ?_
      refine G.iload H125 hx 138 (hb hby at_136) rfl rfl ?_
      refine Wk.castore W125 hx V125 (Or.inr (by omega)) v112 (nar_c16 (own_l1 hv112 : C8 v112 ∧ ¬ v112 = 58).1.up) 2 rfl ⟨by decide, by decide⟩ (Nat.le_of_ble_eq_true rfl) 139 (hb hby at_138) rfl ?_
      intro T126 h126 W126 K126 Ch126 V126; have H126 := W126.here; have z126 := K126.1
      have V126 : Arv Z h126 a120 k120 .char (7 : Int32) [(.int v104), (.int (58 : Int32)), (.int v112), (.int v110), (.int (0 : Int32)), (.int (0 : Int32)), (.int (0 : Int32))] (.int (0 : Int32)) := V126
      refine G.aload H126 hx 141 (hb hby at_139) rfl rfl rfl ?_
      refine G.iload H126 hx 143 (hb hby at_141) rfl rfl ?_
      refine G.iconst H126 hx 144 (2 : Int32) (hb hby at_143) rfl rfl ?_
      refine G.iaddF H126 hx 145 (3 : Int32) (hb hby at_144) (by decide) rfl ?_
      refine G.iload H126 hx 147 (hb hby at_145) rfl rfl ?_
      refine Wk.castore W126 hx V126 (Or.inr (by omega)) v114 (nar_c16 (own_l2 hv114 : C8 v114 ∧ ¬ v114 = 58).1.up) 3 rfl ⟨by decide, by decide⟩ (Nat.le_of_ble_eq_true rfl) 148 (hb hby at_147) rfl ?_
      intro T127 h127 W127 K127 Ch127 V127; have H127 := W127.here; have z127 := K127.1
      have V127 : Arv Z h127 a120 k120 .char (7 : Int32) [(.int v104), (.int (58 : Int32)), (.int v112), (.int v114), (.int (0 : Int32)), (.int (0 : Int32)), (.int (0 : Int32))] (.int (0 : Int32)) := V127
      refine G.aload H127 hx 150 (hb hby at_148) rfl rfl rfl ?_
      refine G.iload H127 hx 152 (hb hby at_150) rfl rfl ?_
      refine G.iconst H127 hx 153 (1 : Int32) (hb hby at_152) rfl rfl ?_
      refine G.iaddF H127 hx 154 (2 : Int32) (hb hby at_153) (by decide) rfl ?_
      refine G.iload H127 hx 156 (hb hby at_154) rfl rfl ?_
      refine G.iaddF H127 hx 157 (3 : Int32) (hb hby at_156) (by decide) rfl ?_
      refine Wk.callS W127 hx hoZ (y := (⟨"com/example/federation/federation/NamesDomainOfPinLaw", "text", "([CI)Ljava/lang/String;"⟩ : MethodName)) (wd hw 9 rfl) (wd hw 10 rfl) (wd hw 2 rfl) (wd hw 11 rfl) (by decide) (Wd := 0) (CN.back (rmTx7_3 l Z a0 hw cz a120 k120 v104 (58 : Int32) v112 v114 (0 : Int32) (0 : Int32) (0 : Int32) h127 W127.old hCS hcz V127 (own_l1 hv104 : C8 v104 ∧ ¬ v104 = 58).1 (C8.of (by decide)) (own_l1 hv112 : C8 v112 ∧ ¬ v112 = 58).1) W127.warm (wd hw 11 rfl) (wd hw 2 rfl) (by decide) (by decide)) (by rw [hml]; rfl) [(.ref a120), (.int (3 : Int32))] [] (lenOf pd15 rfl) rfl rfl (Nat.le_of_eq rfl) 160 (hb hby at_157) rfl (by decide) (by decide) (fun _ q => nomatch q) ?_
      intro v128 T128 h128 W128 K128 Ch128 Q128
      have H128 := W128.here; have z128 := K128.1
      obtain ⟨a128, rfl, g128, Sv128⟩ := Q128; have l128 := ltN Sv128.lt
      show Goes p e below (PostN s Z h0 [] (Q0 Z cz fm p0 p1 p2 h0) room_1.cells room_1.slots) (T128.setTop (mkF m 160 #[.val (.long p0), .second, .val (.int p1), .val (.int p2), .val (.int (1 : Int32)), .val (.int (1 : Int32)), .val (.int v104), .val (.int v106), .val (.int v108), .val (.int v110), .val (.int v112), .val (.int v114), .val (.ref a115), .val (.ref a120), .unset, .unset, .unset] [(.ref a128)]))
      refine G.astore H128 hx 162 #[.val (.long p0), .second, .val (.int p1), .val (.int p2), .val (.int (1 : Int32)), .val (.int (1 : Int32)), .val (.int v104), .val (.int v106), .val (.int v108), .val (.int v110), .val (.int v112), .val (.int v114), .val (.ref a115), .val (.ref a120), .val (.ref a128), .unset, .unset] (hb hby at_160) rfl rfl rfl ?_
      refine G.aload H128 hx 164 (hb hby at_162) rfl rfl rfl ?_
      refine G.iload H128 hx 166 (hb hby at_164) rfl rfl ?_
      refine Wk.callS W128 hx hoZ (y := (⟨"com/example/federation/federation/NamesDomainOfPinLaw", "text", "([CI)Ljava/lang/String;"⟩ : MethodName)) (wd hw 9 rfl) (wd hw 10 rfl) (wd hw 2 rfl) (wd hw 11 rfl) (by decide) (Wd := 0) (CN.back (rmTx4_1 l Z a0 hw cz a115 k115 v104 v106 v108 v110 h128 W128.old hCS hcz (((((((((V119.ext E120).keep K121 (ninS (neA (by omega)) nin0)).keep K122 (ninS (neA (by omega)) nin0)).keep K123 (ninS (neA (by omega)) nin0)).keep K124 (ninS (neA (by omega)) nin0)).keep K125 (ninS (neA (by omega)) nin0)).keep K126 (ninS (neA (by omega)) nin0)).keep K127 (ninS (neA (by omega)) nin0)).keep K128 nin0) (own_l1 hv104 : C8 v104 ∧ ¬ v104 = 58).1) W128.warm (wd hw 11 rfl) (wd hw 2 rfl) (by decide) (by decide)) (by rw [hml]; rfl) [(.ref a115), (.int (1 : Int32))] [] (lenOf pd15 rfl) rfl rfl (Nat.le_of_eq rfl) 169 (hb hby at_166) rfl (by decide) (by decide) (fun _ q => nomatch q) ?_
      intro v129 T129 h129 W129 K129 Ch129 Q129
      have H129 := W129.here; have z129 := K129.1
      obtain ⟨a129, rfl, g129, Sv129⟩ := Q129; have l129 := ltN Sv129.lt
      show Goes p e below (PostN s Z h0 [] (Q0 Z cz fm p0 p1 p2 h0) room_1.cells room_1.slots) (T129.setTop (mkF m 169 #[.val (.long p0), .second, .val (.int p1), .val (.int p2), .val (.int (1 : Int32)), .val (.int (1 : Int32)), .val (.int v104), .val (.int v106), .val (.int v108), .val (.int v110), .val (.int v112), .val (.int v114), .val (.ref a115), .val (.ref a120), .val (.ref a128), .unset, .unset] [(.ref a129)]))
      refine G.astore H129 hx 171 #[.val (.long p0), .second, .val (.int p1), .val (.int p2), .val (.int (1 : Int32)), .val (.int (1 : Int32)), .val (.int v104), .val (.int v106), .val (.int v108), .val (.int v110), .val (.int v112), .val (.int v114), .val (.ref a115), .val (.ref a120), .val (.ref a128), .val (.ref a129), .unset] (hb hby at_169) rfl rfl rfl ?_
      refine G.aload H129 hx 173 (hb hby at_171) rfl rfl rfl ?_
      refine Wk.callS W129 hx hoZ (y := (⟨"com/example/federation/federation/Names", "domainOf", "(Ljava/lang/String;)Ljava/lang/String;"⟩ : MethodName)) (wd hw 41 rfl) (wd hw 42 rfl) (wd hw 43 rfl) (wd hw 44 rfl) (by decide) (Wd := 0) (CN.back (rmDm3_1 l Z a0 hw cz fm a128 v104 v112 h129 W129.old hCS hcz hFM hfm (Sv128.keepX K129 ala0) (own_l1 hv104 : C8 v104 ∧ ¬ v104 = 58).1 (own_l1 hv112 : C8 v112 ∧ ¬ v112 = 58).1 (own_l1 hv104 : C8 v104 ∧ ¬ v104 = 58).2) W129.warm (wd hw 44 rfl) (wd hw 43 rfl) (by decide) (by decide)) (by rw [hml]; rfl) [(.ref a128)] [] (lenOf pd16 rfl) rfl rfl (Nat.le_of_eq rfl) 176 (hb hby at_173) rfl (by decide) (by decide) (fun _ q => nomatch q) ?_
      intro v130 T130 h130 W130 K130 Ch130 Q130
      have H130 := W130.here; have z130 := K130.1
      obtain ⟨a130, rfl, g130, Sv130⟩ := Q130; have l130 := ltN Sv130.lt
      show Goes p e below (PostN s Z h0 [] (Q0 Z cz fm p0 p1 p2 h0) room_1.cells room_1.slots) (T130.setTop (mkF m 176 #[.val (.long p0), .second, .val (.int p1), .val (.int p2), .val (.int (1 : Int32)), .val (.int (1 : Int32)), .val (.int v104), .val (.int v106), .val (.int v108), .val (.int v110), .val (.int v112), .val (.int v114), .val (.ref a115), .val (.ref a120), .val (.ref a128), .val (.ref a129), .unset] [(.ref a130)]))
      refine G.astore H130 hx 178 #[.val (.long p0), .second, .val (.int p1), .val (.int p2), .val (.int (1 : Int32)), .val (.int (1 : Int32)), .val (.int v104), .val (.int v106), .val (.int v108), .val (.int v110), .val (.int v112), .val (.int v114), .val (.ref a115), .val (.ref a120), .val (.ref a128), .val (.ref a129), .val (.ref a130)] (hb hby at_176) rfl rfl rfl ?_
      refine G.aload H130 hx 180 (hb hby at_178) rfl rfl rfl ?_
      refine G.aload H130 hx 182 (hb hby at_180) rfl rfl rfl ?_
      refine Wk.virtual W130 hx hoZ (y := (⟨"java/lang/String", "equals", "(Ljava/lang/Object;)Z"⟩ : MethodName)) (z := (⟨"java/lang/String", "equals", "(Ljava/lang/Object;)Z"⟩ : MethodName)) (wd hw 122 rfl) (wd hw 123 rfl) (wd hw 125 rfl) (wd hw 124 rfl) (W130.nf (wd hw 125 rfl)) (by decide) (Wd := 0) (eqS W130.warm (wsEq hw) (wd hw 13 rfl) W130.old (Sv129.keepX K130 ala0) Sv130 hCS hcz (by decide) (by decide)) (Sv129.exa.keep K130) (by rw [hml]; rfl) [(.ref a130)] [] (lenOf pd17 rfl) rfl rfl (Nat.le_of_eq rfl) 185 (hb hby at_182) rfl (by decide) (by decide) (fun _ q => nomatch q) ?_
      intro v131 T131 h131 W131 K131 Ch131 Q131
      have H131 := W131.here; have z131 := K131.1
      obtain ⟨rfl, eh131⟩ := Q131
      show Goes p e below (PostN s Z h0 [] (Q0 Z cz fm p0 p1 p2 h0) room_1.cells room_1.slots) (T131.setTop (mkF m 185 #[.val (.long p0), .second, .val (.int p1), .val (.int p2), .val (.int (1 : Int32)), .val (.int (1 : Int32)), .val (.int v104), .val (.int v106), .val (.int v108), .val (.int v110), .val (.int v112), .val (.int v114), .val (.ref a115), .val (.ref a120), .val (.ref a128), .val (.ref a129), .val (.ref a130)] [(.int (if ([v104] : List Int32) = ([v104] : List Int32) then (1 : Int32) else (0 : Int32)))]))
      exact Wk.retN W131 hx (if ([v104] : List Int32) = ([v104] : List Int32) then (1 : Int32) else (0 : Int32)) (t := .boolean) (by split <;> rfl) (by simp) hret hlk (hb hby at_185) (by decide) (by decide) (by unfold Q0; simp)
    ·
      refine G.aload H124 hx 125 (hb hby at_123) rfl rfl rfl ?_
      refine G.iload H124 hx 127 (hb hby at_125) rfl rfl ?_
      refine G.bipush H124 hx 129 (58 : Int32) (hb hby at_127) rfl rfl ?_
      refine Wk.castore W124 hx V124 (Or.inr (by omega)) (58 : Int32) rfl 1 rfl ⟨by decide, by decide⟩ (Nat.le_of_ble_eq_true rfl) 130 (hb hby at_129) rfl ?_
      intro T132 h132 W132 K132 Ch132 V132; have H132 := W132.here; have z132 := K132.1
      have V132 : Arv Z h132 a120 k120 .char (7 : Int32) [(.int v104), (.int (58 : Int32)), (.int v108), (.int v110), (.int (0 : Int32)), (.int (0 : Int32)), (.int (0 : Int32))] (.int (0 : Int32)) := V132
      refine G.aload H132 hx 132 (hb hby at_130) rfl rfl rfl ?_
      refine G.iload H132 hx 134 (hb hby at_132) rfl rfl ?_
      refine G.iconst H132 hx 135 (1 : Int32) (hb hby at_134) rfl rfl ?_
      refine G.iaddF H132 hx 136 (2 : Int32) (hb hby at_135) (by decide) rfl ?_
      refine G.iload H132 hx 138 (hb hby at_136) rfl rfl ?_
      refine Wk.castore W132 hx V132 (Or.inr (by omega)) v112 (nar_c16 (own_l1 hv112 : C8 v112 ∧ ¬ v112 = 58).1.up) 2 rfl ⟨by decide, by decide⟩ (Nat.le_of_ble_eq_true rfl) 139 (hb hby at_138) rfl ?_
      intro T133 h133 W133 K133 Ch133 V133; have H133 := W133.here; have z133 := K133.1
      have V133 : Arv Z h133 a120 k120 .char (7 : Int32) [(.int v104), (.int (58 : Int32)), (.int v112), (.int v110), (.int (0 : Int32)), (.int (0 : Int32)), (.int (0 : Int32))] (.int (0 : Int32)) := V133
      refine G.aload H133 hx 141 (hb hby at_139) rfl rfl rfl ?_
      refine G.iload H133 hx 143 (hb hby at_141) rfl rfl ?_
      refine G.iconst H133 hx 144 (2 : Int32) (hb hby at_143) rfl rfl ?_
      refine G.iaddF H133 hx 145 (3 : Int32) (hb hby at_144) (by decide) rfl ?_
      refine G.iload H133 hx 147 (hb hby at_145) rfl rfl ?_
      refine Wk.castore W133 hx V133 (Or.inr (by omega)) v114 (nar_c16 (own_l2 hv114 : C8 v114 ∧ ¬ v114 = 58).1.up) 3 rfl ⟨by decide, by decide⟩ (Nat.le_of_ble_eq_true rfl) 148 (hb hby at_147) rfl ?_
      intro T134 h134 W134 K134 Ch134 V134; have H134 := W134.here; have z134 := K134.1
      have V134 : Arv Z h134 a120 k120 .char (7 : Int32) [(.int v104), (.int (58 : Int32)), (.int v112), (.int v114), (.int (0 : Int32)), (.int (0 : Int32)), (.int (0 : Int32))] (.int (0 : Int32)) := V134
      refine G.aload H134 hx 150 (hb hby at_148) rfl rfl rfl ?_
      refine G.iload H134 hx 152 (hb hby at_150) rfl rfl ?_
      refine G.iconst H134 hx 153 (1 : Int32) (hb hby at_152) rfl rfl ?_
      refine G.iaddF H134 hx 154 (2 : Int32) (hb hby at_153) (by decide) rfl ?_
      refine G.iload H134 hx 156 (hb hby at_154) rfl rfl ?_
      refine G.iaddF H134 hx 157 (4 : Int32) (hb hby at_156) (by decide) rfl ?_
      refine Wk.callS W134 hx hoZ (y := (⟨"com/example/federation/federation/NamesDomainOfPinLaw", "text", "([CI)Ljava/lang/String;"⟩ : MethodName)) (wd hw 9 rfl) (wd hw 10 rfl) (wd hw 2 rfl) (wd hw 11 rfl) (by decide) (Wd := 0) (CN.back (rmTx7_4 l Z a0 hw cz a120 k120 v104 (58 : Int32) v112 v114 (0 : Int32) (0 : Int32) (0 : Int32) h134 W134.old hCS hcz V134 (own_l1 hv104 : C8 v104 ∧ ¬ v104 = 58).1 (C8.of (by decide)) (own_l1 hv112 : C8 v112 ∧ ¬ v112 = 58).1 (own_l2 hv114 : C8 v114 ∧ ¬ v114 = 58).1) W134.warm (wd hw 11 rfl) (wd hw 2 rfl) (by decide) (by decide)) (by rw [hml]; rfl) [(.ref a120), (.int (4 : Int32))] [] (lenOf pd15 rfl) rfl rfl (Nat.le_of_eq rfl) 160 (hb hby at_157) rfl (by decide) (by decide) (fun _ q => nomatch q) ?_
      intro v135 T135 h135 W135 K135 Ch135 Q135
      have H135 := W135.here; have z135 := K135.1
      obtain ⟨a135, rfl, g135, Sv135⟩ := Q135; have l135 := ltN Sv135.lt
      show Goes p e below (PostN s Z h0 [] (Q0 Z cz fm p0 p1 p2 h0) room_1.cells room_1.slots) (T135.setTop (mkF m 160 #[.val (.long p0), .second, .val (.int p1), .val (.int p2), .val (.int (1 : Int32)), .val (.int (2 : Int32)), .val (.int v104), .val (.int v106), .val (.int v108), .val (.int v110), .val (.int v112), .val (.int v114), .val (.ref a115), .val (.ref a120), .unset, .unset, .unset] [(.ref a135)]))
      refine G.astore H135 hx 162 #[.val (.long p0), .second, .val (.int p1), .val (.int p2), .val (.int (1 : Int32)), .val (.int (2 : Int32)), .val (.int v104), .val (.int v106), .val (.int v108), .val (.int v110), .val (.int v112), .val (.int v114), .val (.ref a115), .val (.ref a120), .val (.ref a135), .unset, .unset] (hb hby at_160) rfl rfl rfl ?_
      refine G.aload H135 hx 164 (hb hby at_162) rfl rfl rfl ?_
      refine G.iload H135 hx 166 (hb hby at_164) rfl rfl ?_
      refine Wk.callS W135 hx hoZ (y := (⟨"com/example/federation/federation/NamesDomainOfPinLaw", "text", "([CI)Ljava/lang/String;"⟩ : MethodName)) (wd hw 9 rfl) (wd hw 10 rfl) (wd hw 2 rfl) (wd hw 11 rfl) (by decide) (Wd := 0) (CN.back (rmTx4_1 l Z a0 hw cz a115 k115 v104 v106 v108 v110 h135 W135.old hCS hcz (((((((((V119.ext E120).keep K121 (ninS (neA (by omega)) nin0)).keep K122 (ninS (neA (by omega)) nin0)).keep K123 (ninS (neA (by omega)) nin0)).keep K124 (ninS (neA (by omega)) nin0)).keep K132 (ninS (neA (by omega)) nin0)).keep K133 (ninS (neA (by omega)) nin0)).keep K134 (ninS (neA (by omega)) nin0)).keep K135 nin0) (own_l1 hv104 : C8 v104 ∧ ¬ v104 = 58).1) W135.warm (wd hw 11 rfl) (wd hw 2 rfl) (by decide) (by decide)) (by rw [hml]; rfl) [(.ref a115), (.int (1 : Int32))] [] (lenOf pd15 rfl) rfl rfl (Nat.le_of_eq rfl) 169 (hb hby at_166) rfl (by decide) (by decide) (fun _ q => nomatch q) ?_
      intro v136 T136 h136 W136 K136 Ch136 Q136
      have H136 := W136.here; have z136 := K136.1
      obtain ⟨a136, rfl, g136, Sv136⟩ := Q136; have l136 := ltN Sv136.lt
      show Goes p e below (PostN s Z h0 [] (Q0 Z cz fm p0 p1 p2 h0) room_1.cells room_1.slots) (T136.setTop (mkF m 169 #[.val (.long p0), .second, .val (.int p1), .val (.int p2), .val (.int (1 : Int32)), .val (.int (2 : Int32)), .val (.int v104), .val (.int v106), .val (.int v108), .val (.int v110), .val (.int v112), .val (.int v114), .val (.ref a115), .val (.ref a120), .val (.ref a135), .unset, .unset] [(.ref a136)]))
      refine G.astore H136 hx 171 #[.val (.long p0), .second, .val (.int p1), .val (.int p2), .val (.int (1 : Int32)), .val (.int (2 : Int32)), .val (.int v104), .val (.int v106), .val (.int v108), .val (.int v110), .val (.int v112), .val (.int v114), .val (.ref a115), .val (.ref a120), .val (.ref a135), .val (.ref a136), .unset] (hb hby at_169) rfl rfl rfl ?_
      refine G.aload H136 hx 173 (hb hby at_171) rfl rfl rfl ?_
      refine Wk.callS W136 hx hoZ (y := (⟨"com/example/federation/federation/Names", "domainOf", "(Ljava/lang/String;)Ljava/lang/String;"⟩ : MethodName)) (wd hw 41 rfl) (wd hw 42 rfl) (wd hw 43 rfl) (wd hw 44 rfl) (by decide) (Wd := 0) (CN.back (rmDm4_1 l Z a0 hw cz fm a135 v104 v112 v114 h136 W136.old hCS hcz hFM hfm (Sv135.keepX K136 ala0) (own_l1 hv104 : C8 v104 ∧ ¬ v104 = 58).1 (own_l1 hv112 : C8 v112 ∧ ¬ v112 = 58).1 (own_l2 hv114 : C8 v114 ∧ ¬ v114 = 58).1 (own_l1 hv104 : C8 v104 ∧ ¬ v104 = 58).2) W136.warm (wd hw 44 rfl) (wd hw 43 rfl) (by decide) (by decide)) (by rw [hml]; rfl) [(.ref a135)] [] (lenOf pd16 rfl) rfl rfl (Nat.le_of_eq rfl) 176 (hb hby at_173) rfl (by decide) (by decide) (fun _ q => nomatch q) ?_
      intro v137 T137 h137 W137 K137 Ch137 Q137
      have H137 := W137.here; have z137 := K137.1
      obtain ⟨a137, rfl, g137, Sv137⟩ := Q137; have l137 := ltN Sv137.lt
      show Goes p e below (PostN s Z h0 [] (Q0 Z cz fm p0 p1 p2 h0) room_1.cells room_1.slots) (T137.setTop (mkF m 176 #[.val (.long p0), .second, .val (.int p1), .val (.int p2), .val (.int (1 : Int32)), .val (.int (2 : Int32)), .val (.int v104), .val (.int v106), .val (.int v108), .val (.int v110), .val (.int v112), .val (.int v114), .val (.ref a115), .val (.ref a120), .val (.ref a135), .val (.ref a136), .unset] [(.ref a137)]))
      refine G.astore H137 hx 178 #[.val (.long p0), .second, .val (.int p1), .val (.int p2), .val (.int (1 : Int32)), .val (.int (2 : Int32)), .val (.int v104), .val (.int v106), .val (.int v108), .val (.int v110), .val (.int v112), .val (.int v114), .val (.ref a115), .val (.ref a120), .val (.ref a135), .val (.ref a136), .val (.ref a137)] (hb hby at_176) rfl rfl rfl ?_
      refine G.aload H137 hx 180 (hb hby at_178) rfl rfl rfl ?_
      refine G.aload H137 hx 182 (hb hby at_180) rfl rfl rfl ?_
      refine Wk.virtual W137 hx hoZ (y := (⟨"java/lang/String", "equals", "(Ljava/lang/Object;)Z"⟩ : MethodName)) (z := (⟨"java/lang/String", "equals", "(Ljava/lang/Object;)Z"⟩ : MethodName)) (wd hw 122 rfl) (wd hw 123 rfl) (wd hw 125 rfl) (wd hw 124 rfl) (W137.nf (wd hw 125 rfl)) (by decide) (Wd := 0) (eqS W137.warm (wsEq hw) (wd hw 13 rfl) W137.old (Sv136.keepX K137 ala0) Sv137 hCS hcz (by decide) (by decide)) (Sv136.exa.keep K137) (by rw [hml]; rfl) [(.ref a137)] [] (lenOf pd17 rfl) rfl rfl (Nat.le_of_eq rfl) 185 (hb hby at_182) rfl (by decide) (by decide) (fun _ q => nomatch q) ?_
      intro v138 T138 h138 W138 K138 Ch138 Q138
      have H138 := W138.here; have z138 := K138.1
      obtain ⟨rfl, eh138⟩ := Q138
      show Goes p e below (PostN s Z h0 [] (Q0 Z cz fm p0 p1 p2 h0) room_1.cells room_1.slots) (T138.setTop (mkF m 185 #[.val (.long p0), .second, .val (.int p1), .val (.int p2), .val (.int (1 : Int32)), .val (.int (2 : Int32)), .val (.int v104), .val (.int v106), .val (.int v108), .val (.int v110), .val (.int v112), .val (.int v114), .val (.ref a115), .val (.ref a120), .val (.ref a135), .val (.ref a136), .val (.ref a137)] [(.int (if ([v104] : List Int32) = ([v104] : List Int32) then (1 : Int32) else (0 : Int32)))]))
      exact Wk.retN W138 hx (if ([v104] : List Int32) = ([v104] : List Int32) then (1 : Int32) else (0 : Int32)) (t := .boolean) (by split <;> rfl) (by simp) hret hlk (hb hby at_185) (by decide) (by decide) (by unfold Q0; simp)
  ·
    rcases own_nl hv102 with rfl | rfl
    ·
      refine G.aload H124 hx 125 (hb hby at_123) rfl rfl rfl ?_
      refine G.iload H124 hx 127 (hb hby at_125) rfl rfl ?_
      refine G.bipush H124 hx 129 (58 : Int32) (hb hby at_127) rfl rfl ?_
      refine Wk.castore W124 hx V124 (Or.inr (by omega)) (58 : Int32) rfl 2 rfl ⟨by decide, by decide⟩ (Nat.le_of_ble_eq_true rfl) 130 (hb hby at_129) rfl ?_
      intro T139 h139 W139 K139 Ch139 V139; have H139 := W139.here; have z139 := K139.1
      have V139 : Arv Z h139 a120 k120 .char (7 : Int32) [(.int v104), (.int v106), (.int (58 : Int32)), (.int v110), (.int (0 : Int32)), (.int (0 : Int32)), (.int (0 : Int32))] (.int (0 : Int32)) := V139
      refine G.aload H139 hx 132 (hb hby at_130) rfl rfl rfl ?_
      refine G.iload H139 hx 134 (hb hby at_132) rfl rfl ?_
      refine G.iconst H139 hx 135 (1 : Int32) (hb hby at_134) rfl rfl ?_
      refine G.iaddF H139 hx 136 (3 : Int32) (hb hby at_135) (by decide) rfl ?_
      refine G.iload H139 hx 138 (hb hby at_136) rfl rfl ?_
      refine Wk.castore W139 hx V139 (Or.inr (by omega)) v112 (nar_c16 (own_l1 hv112 : C8 v112 ∧ ¬ v112 = 58).1.up) 3 rfl ⟨by decide, by decide⟩ (Nat.le_of_ble_eq_true rfl) 139 (hb hby at_138) rfl ?_
      intro T140 h140 W140 K140 Ch140 V140; have H140 := W140.here; have z140 := K140.1
      have V140 : Arv Z h140 a120 k120 .char (7 : Int32) [(.int v104), (.int v106), (.int (58 : Int32)), (.int v112), (.int (0 : Int32)), (.int (0 : Int32)), (.int (0 : Int32))] (.int (0 : Int32)) := V140
      refine G.aload H140 hx 141 (hb hby at_139) rfl rfl rfl ?_
      refine G.iload H140 hx 143 (hb hby at_141) rfl rfl ?_
      refine G.iconst H140 hx 144 (2 : Int32) (hb hby at_143) rfl rfl ?_
      refine G.iaddF H140 hx 145 (4 : Int32) (hb hby at_144) (by decide) rfl ?_
      refine G.iload H140 hx 147 (hb hby at_145) rfl rfl ?_
      refine Wk.castore W140 hx V140 (Or.inr (by omega)) v114 (nar_c16 (own_l2 hv114 : C8 v114 ∧ ¬ v114 = 58).1.up) 4 rfl ⟨by decide, by decide⟩ (Nat.le_of_ble_eq_true rfl) 148 (hb hby at_147) rfl ?_
      intro T141 h141 W141 K141 Ch141 V141; have H141 := W141.here; have z141 := K141.1
      have V141 : Arv Z h141 a120 k120 .char (7 : Int32) [(.int v104), (.int v106), (.int (58 : Int32)), (.int v112), (.int v114), (.int (0 : Int32)), (.int (0 : Int32))] (.int (0 : Int32)) := V141
      refine G.aload H141 hx 150 (hb hby at_148) rfl rfl rfl ?_
      refine G.iload H141 hx 152 (hb hby at_150) rfl rfl ?_
      refine G.iconst H141 hx 153 (1 : Int32) (hb hby at_152) rfl rfl ?_
      refine G.iaddF H141 hx 154 (3 : Int32) (hb hby at_153) (by decide) rfl ?_
      refine G.iload H141 hx 156 (hb hby at_154) rfl rfl ?_
      refine G.iaddF H141 hx 157 (4 : Int32) (hb hby at_156) (by decide) rfl ?_
      refine Wk.callS W141 hx hoZ (y := (⟨"com/example/federation/federation/NamesDomainOfPinLaw", "text", "([CI)Ljava/lang/String;"⟩ : MethodName)) (wd hw 9 rfl) (wd hw 10 rfl) (wd hw 2 rfl) (wd hw 11 rfl) (by decide) (Wd := 0) (CN.back (rmTx7_4 l Z a0 hw cz a120 k120 v104 v106 (58 : Int32) v112 v114 (0 : Int32) (0 : Int32) h141 W141.old hCS hcz V141 (own_l1 hv104 : C8 v104 ∧ ¬ v104 = 58).1 (own_l2 hv106 : C8 v106 ∧ ¬ v106 = 58).1 (C8.of (by decide)) (own_l1 hv112 : C8 v112 ∧ ¬ v112 = 58).1) W141.warm (wd hw 11 rfl) (wd hw 2 rfl) (by decide) (by decide)) (by rw [hml]; rfl) [(.ref a120), (.int (4 : Int32))] [] (lenOf pd15 rfl) rfl rfl (Nat.le_of_eq rfl) 160 (hb hby at_157) rfl (by decide) (by decide) (fun _ q => nomatch q) ?_
      intro v142 T142 h142 W142 K142 Ch142 Q142
      have H142 := W142.here; have z142 := K142.1
      obtain ⟨a142, rfl, g142, Sv142⟩ := Q142; have l142 := ltN Sv142.lt
      show Goes p e below (PostN s Z h0 [] (Q0 Z cz fm p0 p1 p2 h0) room_1.cells room_1.slots) (T142.setTop (mkF m 160 #[.val (.long p0), .second, .val (.int p1), .val (.int p2), .val (.int (2 : Int32)), .val (.int (1 : Int32)), .val (.int v104), .val (.int v106), .val (.int v108), .val (.int v110), .val (.int v112), .val (.int v114), .val (.ref a115), .val (.ref a120), .unset, .unset, .unset] [(.ref a142)]))
      refine G.astore H142 hx 162 #[.val (.long p0), .second, .val (.int p1), .val (.int p2), .val (.int (2 : Int32)), .val (.int (1 : Int32)), .val (.int v104), .val (.int v106), .val (.int v108), .val (.int v110), .val (.int v112), .val (.int v114), .val (.ref a115), .val (.ref a120), .val (.ref a142), .unset, .unset] (hb hby at_160) rfl rfl rfl ?_
      refine G.aload H142 hx 164 (hb hby at_162) rfl rfl rfl ?_
      refine G.iload H142 hx 166 (hb hby at_164) rfl rfl ?_
      refine Wk.callS W142 hx hoZ (y := (⟨"com/example/federation/federation/NamesDomainOfPinLaw", "text", "([CI)Ljava/lang/String;"⟩ : MethodName)) (wd hw 9 rfl) (wd hw 10 rfl) (wd hw 2 rfl) (wd hw 11 rfl) (by decide) (Wd := 0) (CN.back (rmTx4_2 l Z a0 hw cz a115 k115 v104 v106 v108 v110 h142 W142.old hCS hcz (((((((((V119.ext E120).keep K121 (ninS (neA (by omega)) nin0)).keep K122 (ninS (neA (by omega)) nin0)).keep K123 (ninS (neA (by omega)) nin0)).keep K124 (ninS (neA (by omega)) nin0)).keep K139 (ninS (neA (by omega)) nin0)).keep K140 (ninS (neA (by omega)) nin0)).keep K141 (ninS (neA (by omega)) nin0)).keep K142 nin0) (own_l1 hv104 : C8 v104 ∧ ¬ v104 = 58).1 (own_l2 hv106 : C8 v106 ∧ ¬ v106 = 58).1) W142.warm (wd hw 11 rfl) (wd hw 2 rfl) (by decide) (by decide)) (by rw [hml]; rfl) [(.ref a115), (.int (2 : Int32))] [] (lenOf pd15 rfl) rfl rfl (Nat.le_of_eq rfl) 169 (hb hby at_166) rfl (by decide) (by decide) (fun _ q => nomatch q) ?_
      intro v143 T143 h143 W143 K143 Ch143 Q143
      have H143 := W143.here; have z143 := K143.1
      obtain ⟨a143, rfl, g143, Sv143⟩ := Q143; have l143 := ltN Sv143.lt
      show Goes p e below (PostN s Z h0 [] (Q0 Z cz fm p0 p1 p2 h0) room_1.cells room_1.slots) (T143.setTop (mkF m 169 #[.val (.long p0), .second, .val (.int p1), .val (.int p2), .val (.int (2 : Int32)), .val (.int (1 : Int32)), .val (.int v104), .val (.int v106), .val (.int v108), .val (.int v110), .val (.int v112), .val (.int v114), .val (.ref a115), .val (.ref a120), .val (.ref a142), .unset, .unset] [(.ref a143)]))
      refine G.astore H143 hx 171 #[.val (.long p0), .second, .val (.int p1), .val (.int p2), .val (.int (2 : Int32)), .val (.int (1 : Int32)), .val (.int v104), .val (.int v106), .val (.int v108), .val (.int v110), .val (.int v112), .val (.int v114), .val (.ref a115), .val (.ref a120), .val (.ref a142), .val (.ref a143), .unset] (hb hby at_169) rfl rfl rfl ?_
      refine G.aload H143 hx 173 (hb hby at_171) rfl rfl rfl ?_
      refine Wk.callS W143 hx hoZ (y := (⟨"com/example/federation/federation/Names", "domainOf", "(Ljava/lang/String;)Ljava/lang/String;"⟩ : MethodName)) (wd hw 41 rfl) (wd hw 42 rfl) (wd hw 43 rfl) (wd hw 44 rfl) (by decide) (Wd := 0) (CN.back (rmDm4_2 l Z a0 hw cz fm a142 v104 v106 v112 h143 W143.old hCS hcz hFM hfm (Sv142.keepX K143 ala0) (own_l1 hv104 : C8 v104 ∧ ¬ v104 = 58).1 (own_l2 hv106 : C8 v106 ∧ ¬ v106 = 58).1 (own_l1 hv112 : C8 v112 ∧ ¬ v112 = 58).1 (own_l1 hv104 : C8 v104 ∧ ¬ v104 = 58).2 (own_l2 hv106 : C8 v106 ∧ ¬ v106 = 58).2) W143.warm (wd hw 44 rfl) (wd hw 43 rfl) (by decide) (by decide)) (by rw [hml]; rfl) [(.ref a142)] [] (lenOf pd16 rfl) rfl rfl (Nat.le_of_eq rfl) 176 (hb hby at_173) rfl (by decide) (by decide) (fun _ q => nomatch q) ?_
      intro v144 T144 h144 W144 K144 Ch144 Q144
      have H144 := W144.here; have z144 := K144.1
      obtain ⟨a144, rfl, g144, Sv144⟩ := Q144; have l144 := ltN Sv144.lt
      show Goes p e below (PostN s Z h0 [] (Q0 Z cz fm p0 p1 p2 h0) room_1.cells room_1.slots) (T144.setTop (mkF m 176 #[.val (.long p0), .second, .val (.int p1), .val (.int p2), .val (.int (2 : Int32)), .val (.int (1 : Int32)), .val (.int v104), .val (.int v106), .val (.int v108), .val (.int v110), .val (.int v112), .val (.int v114), .val (.ref a115), .val (.ref a120), .val (.ref a142), .val (.ref a143), .unset] [(.ref a144)]))
      refine G.astore H144 hx 178 #[.val (.long p0), .second, .val (.int p1), .val (.int p2), .val (.int (2 : Int32)), .val (.int (1 : Int32)), .val (.int v104), .val (.int v106), .val (.int v108), .val (.int v110), .val (.int v112), .val (.int v114), .val (.ref a115), .val (.ref a120), .val (.ref a142), .val (.ref a143), .val (.ref a144)] (hb hby at_176) rfl rfl rfl ?_
      refine G.aload H144 hx 180 (hb hby at_178) rfl rfl rfl ?_
      refine G.aload H144 hx 182 (hb hby at_180) rfl rfl rfl ?_
      refine Wk.virtual W144 hx hoZ (y := (⟨"java/lang/String", "equals", "(Ljava/lang/Object;)Z"⟩ : MethodName)) (z := (⟨"java/lang/String", "equals", "(Ljava/lang/Object;)Z"⟩ : MethodName)) (wd hw 122 rfl) (wd hw 123 rfl) (wd hw 125 rfl) (wd hw 124 rfl) (W144.nf (wd hw 125 rfl)) (by decide) (Wd := 0) (eqS W144.warm (wsEq hw) (wd hw 13 rfl) W144.old (Sv143.keepX K144 ala0) Sv144 hCS hcz (by decide) (by decide)) (Sv143.exa.keep K144) (by rw [hml]; rfl) [(.ref a144)] [] (lenOf pd17 rfl) rfl rfl (Nat.le_of_eq rfl) 185 (hb hby at_182) rfl (by decide) (by decide) (fun _ q => nomatch q) ?_
      intro v145 T145 h145 W145 K145 Ch145 Q145
      have H145 := W145.here; have z145 := K145.1
      obtain ⟨rfl, eh145⟩ := Q145
      show Goes p e below (PostN s Z h0 [] (Q0 Z cz fm p0 p1 p2 h0) room_1.cells room_1.slots) (T145.setTop (mkF m 185 #[.val (.long p0), .second, .val (.int p1), .val (.int p2), .val (.int (2 : Int32)), .val (.int (1 : Int32)), .val (.int v104), .val (.int v106), .val (.int v108), .val (.int v110), .val (.int v112), .val (.int v114), .val (.ref a115), .val (.ref a120), .val (.ref a142), .val (.ref a143), .val (.ref a144)] [(.int (if ([v104, v106] : List Int32) = ([v104, v106] : List Int32) then (1 : Int32) else (0 : Int32)))]))
      exact Wk.retN W145 hx (if ([v104, v106] : List Int32) = ([v104, v106] : List Int32) then (1 : Int32) else (0 : Int32)) (t := .boolean) (by split <;> rfl) (by simp) hret hlk (hb hby at_185) (by decide) (by decide) (by unfold Q0; simp)
    ·
      refine G.aload H124 hx 125 (hb hby at_123) rfl rfl rfl ?_
      refine G.iload H124 hx 127 (hb hby at_125) rfl rfl ?_
      refine G.bipush H124 hx 129 (58 : Int32) (hb hby at_127) rfl rfl ?_
      refine Wk.castore W124 hx V124 (Or.inr (by omega)) (58 : Int32) rfl 2 rfl ⟨by decide, by decide⟩ (Nat.le_of_ble_eq_true rfl) 130 (hb hby at_129) rfl ?_
      intro T146 h146 W146 K146 Ch146 V146; have H146 := W146.here; have z146 := K146.1
      have V146 : Arv Z h146 a120 k120 .char (7 : Int32) [(.int v104), (.int v106), (.int (58 : Int32)), (.int v110), (.int (0 : Int32)), (.int (0 : Int32)), (.int (0 : Int32))] (.int (0 : Int32)) := V146
      refine G.aload H146 hx 132 (hb hby at_130) rfl rfl rfl ?_
      refine G.iload H146 hx 134 (hb hby at_132) rfl rfl ?_
      refine G.iconst H146 hx 135 (1 : Int32) (hb hby at_134) rfl rfl ?_
      refine G.iaddF H146 hx 136 (3 : Int32) (hb hby at_135) (by decide) rfl ?_
      refine G.iload H146 hx 138 (hb hby at_136) rfl rfl ?_
      refine Wk.castore W146 hx V146 (Or.inr (by omega)) v112 (nar_c16 (own_l1 hv112 : C8 v112 ∧ ¬ v112 = 58).1.up) 3 rfl ⟨by decide, by decide⟩ (Nat.le_of_ble_eq_true rfl) 139 (hb hby at_138) rfl ?_
      intro T147 h147 W147 K147 Ch147 V147; have H147 := W147.here; have z147 := K147.1
      have V147 : Arv Z h147 a120 k120 .char (7 : Int32) [(.int v104), (.int v106), (.int (58 : Int32)), (.int v112), (.int (0 : Int32)), (.int (0 : Int32)), (.int (0 : Int32))] (.int (0 : Int32)) := V147
      refine G.aload H147 hx 141 (hb hby at_139) rfl rfl rfl ?_
      refine G.iload H147 hx 143 (hb hby at_141) rfl rfl ?_
      refine G.iconst H147 hx 144 (2 : Int32) (hb hby at_143) rfl rfl ?_
      refine G.iaddF H147 hx 145 (4 : Int32) (hb hby at_144) (by decide) rfl ?_
      refine G.iload H147 hx 147 (hb hby at_145) rfl rfl ?_
      refine Wk.castore W147 hx V147 (Or.inr (by omega)) v114 (nar_c16 (own_l2 hv114 : C8 v114 ∧ ¬ v114 = 58).1.up) 4 rfl ⟨by decide, by decide⟩ (Nat.le_of_ble_eq_true rfl) 148 (hb hby at_147) rfl ?_
      intro T148 h148 W148 K148 Ch148 V148; have H148 := W148.here; have z148 := K148.1
      have V148 : Arv Z h148 a120 k120 .char (7 : Int32) [(.int v104), (.int v106), (.int (58 : Int32)), (.int v112), (.int v114), (.int (0 : Int32)), (.int (0 : Int32))] (.int (0 : Int32)) := V148
      refine G.aload H148 hx 150 (hb hby at_148) rfl rfl rfl ?_
      refine G.iload H148 hx 152 (hb hby at_150) rfl rfl ?_
      refine G.iconst H148 hx 153 (1 : Int32) (hb hby at_152) rfl rfl ?_
      refine G.iaddF H148 hx 154 (3 : Int32) (hb hby at_153) (by decide) rfl ?_
      refine G.iload H148 hx 156 (hb hby at_154) rfl rfl ?_
      refine G.iaddF H148 hx 157 (5 : Int32) (hb hby at_156) (by decide) rfl ?_
      refine Wk.callS W148 hx hoZ (y := (⟨"com/example/federation/federation/NamesDomainOfPinLaw", "text", "([CI)Ljava/lang/String;"⟩ : MethodName)) (wd hw 9 rfl) (wd hw 10 rfl) (wd hw 2 rfl) (wd hw 11 rfl) (by decide) (Wd := 0) (CN.back (rmTx7_5 l Z a0 hw cz a120 k120 v104 v106 (58 : Int32) v112 v114 (0 : Int32) (0 : Int32) h148 W148.old hCS hcz V148 (own_l1 hv104 : C8 v104 ∧ ¬ v104 = 58).1 (own_l2 hv106 : C8 v106 ∧ ¬ v106 = 58).1 (C8.of (by decide)) (own_l1 hv112 : C8 v112 ∧ ¬ v112 = 58).1 (own_l2 hv114 : C8 v114 ∧ ¬ v114 = 58).1) W148.warm (wd hw 11 rfl) (wd hw 2 rfl) (by decide) (by decide)) (by rw [hml]; rfl) [(.ref a120), (.int (5 : Int32))] [] (lenOf pd15 rfl) rfl rfl (Nat.le_of_eq rfl) 160 (hb hby at_157) rfl (by decide) (by decide) (fun _ q => nomatch q) ?_
      intro v149 T149 h149 W149 K149 Ch149 Q149
      have H149 := W149.here; have z149 := K149.1
      obtain ⟨a149, rfl, g149, Sv149⟩ := Q149; have l149 := ltN Sv149.lt
      show Goes p e below (PostN s Z h0 [] (Q0 Z cz fm p0 p1 p2 h0) room_1.cells room_1.slots) (T149.setTop (mkF m 160 #[.val (.long p0), .second, .val (.int p1), .val (.int p2), .val (.int (2 : Int32)), .val (.int (2 : Int32)), .val (.int v104), .val (.int v106), .val (.int v108), .val (.int v110), .val (.int v112), .val (.int v114), .val (.ref a115), .val (.ref a120), .unset, .unset, .unset] [(.ref a149)]))
      refine G.astore H149 hx 162 #[.val (.long p0), .second, .val (.int p1), .val (.int p2), .val (.int (2 : Int32)), .val (.int (2 : Int32)), .val (.int v104), .val (.int v106), .val (.int v108), .val (.int v110), .val (.int v112), .val (.int v114), .val (.ref a115), .val (.ref a120), .val (.ref a149), .unset, .unset] (hb hby at_160) rfl rfl rfl ?_
      refine G.aload H149 hx 164 (hb hby at_162) rfl rfl rfl ?_
      refine G.iload H149 hx 166 (hb hby at_164) rfl rfl ?_
      refine Wk.callS W149 hx hoZ (y := (⟨"com/example/federation/federation/NamesDomainOfPinLaw", "text", "([CI)Ljava/lang/String;"⟩ : MethodName)) (wd hw 9 rfl) (wd hw 10 rfl) (wd hw 2 rfl) (wd hw 11 rfl) (by decide) (Wd := 0) (CN.back (rmTx4_2 l Z a0 hw cz a115 k115 v104 v106 v108 v110 h149 W149.old hCS hcz (((((((((V119.ext E120).keep K121 (ninS (neA (by omega)) nin0)).keep K122 (ninS (neA (by omega)) nin0)).keep K123 (ninS (neA (by omega)) nin0)).keep K124 (ninS (neA (by omega)) nin0)).keep K146 (ninS (neA (by omega)) nin0)).keep K147 (ninS (neA (by omega)) nin0)).keep K148 (ninS (neA (by omega)) nin0)).keep K149 nin0) (own_l1 hv104 : C8 v104 ∧ ¬ v104 = 58).1 (own_l2 hv106 : C8 v106 ∧ ¬ v106 = 58).1) W149.warm (wd hw 11 rfl) (wd hw 2 rfl) (by decide) (by decide)) (by rw [hml]; rfl) [(.ref a115), (.int (2 : Int32))] [] (lenOf pd15 rfl) rfl rfl (Nat.le_of_eq rfl) 169 (hb hby at_166) rfl (by decide) (by decide) (fun _ q => nomatch q) ?_
      intro v150 T150 h150 W150 K150 Ch150 Q150
      have H150 := W150.here; have z150 := K150.1
      obtain ⟨a150, rfl, g150, Sv150⟩ := Q150; have l150 := ltN Sv150.lt
      show Goes p e below (PostN s Z h0 [] (Q0 Z cz fm p0 p1 p2 h0) room_1.cells room_1.slots) (T150.setTop (mkF m 169 #[.val (.long p0), .second, .val (.int p1), .val (.int p2), .val (.int (2 : Int32)), .val (.int (2 : Int32)), .val (.int v104), .val (.int v106), .val (.int v108), .val (.int v110), .val (.int v112), .val (.int v114), .val (.ref a115), .val (.ref a120), .val (.ref a149), .unset, .unset] [(.ref a150)]))
      refine G.astore H150 hx 171 #[.val (.long p0), .second, .val (.int p1), .val (.int p2), .val (.int (2 : Int32)), .val (.int (2 : Int32)), .val (.int v104), .val (.int v106), .val (.int v108), .val (.int v110), .val (.int v112), .val (.int v114), .val (.ref a115), .val (.ref a120), .val (.ref a149), .val (.ref a150), .unset] (hb hby at_169) rfl rfl rfl ?_
      refine G.aload H150 hx 173 (hb hby at_171) rfl rfl rfl ?_
      refine Wk.callS W150 hx hoZ (y := (⟨"com/example/federation/federation/Names", "domainOf", "(Ljava/lang/String;)Ljava/lang/String;"⟩ : MethodName)) (wd hw 41 rfl) (wd hw 42 rfl) (wd hw 43 rfl) (wd hw 44 rfl) (by decide) (Wd := 0) (CN.back (rmDm5_2 l Z a0 hw cz fm a149 v104 v106 v112 v114 h150 W150.old hCS hcz hFM hfm (Sv149.keepX K150 ala0) (own_l1 hv104 : C8 v104 ∧ ¬ v104 = 58).1 (own_l2 hv106 : C8 v106 ∧ ¬ v106 = 58).1 (own_l1 hv112 : C8 v112 ∧ ¬ v112 = 58).1 (own_l2 hv114 : C8 v114 ∧ ¬ v114 = 58).1 (own_l1 hv104 : C8 v104 ∧ ¬ v104 = 58).2 (own_l2 hv106 : C8 v106 ∧ ¬ v106 = 58).2) W150.warm (wd hw 44 rfl) (wd hw 43 rfl) (by decide) (by decide)) (by rw [hml]; rfl) [(.ref a149)] [] (lenOf pd16 rfl) rfl rfl (Nat.le_of_eq rfl) 176 (hb hby at_173) rfl (by decide) (by decide) (fun _ q => nomatch q) ?_
      intro v151 T151 h151 W151 K151 Ch151 Q151
      have H151 := W151.here; have z151 := K151.1
      obtain ⟨a151, rfl, g151, Sv151⟩ := Q151; have l151 := ltN Sv151.lt
      show Goes p e below (PostN s Z h0 [] (Q0 Z cz fm p0 p1 p2 h0) room_1.cells room_1.slots) (T151.setTop (mkF m 176 #[.val (.long p0), .second, .val (.int p1), .val (.int p2), .val (.int (2 : Int32)), .val (.int (2 : Int32)), .val (.int v104), .val (.int v106), .val (.int v108), .val (.int v110), .val (.int v112), .val (.int v114), .val (.ref a115), .val (.ref a120), .val (.ref a149), .val (.ref a150), .unset] [(.ref a151)]))
      refine G.astore H151 hx 178 #[.val (.long p0), .second, .val (.int p1), .val (.int p2), .val (.int (2 : Int32)), .val (.int (2 : Int32)), .val (.int v104), .val (.int v106), .val (.int v108), .val (.int v110), .val (.int v112), .val (.int v114), .val (.ref a115), .val (.ref a120), .val (.ref a149), .val (.ref a150), .val (.ref a151)] (hb hby at_176) rfl rfl rfl ?_
      refine G.aload H151 hx 180 (hb hby at_178) rfl rfl rfl ?_
      refine G.aload H151 hx 182 (hb hby at_180) rfl rfl rfl ?_
      refine Wk.virtual W151 hx hoZ (y := (⟨"java/lang/String", "equals", "(Ljava/lang/Object;)Z"⟩ : MethodName)) (z := (⟨"java/lang/String", "equals", "(Ljava/lang/Object;)Z"⟩ : MethodName)) (wd hw 122 rfl) (wd hw 123 rfl) (wd hw 125 rfl) (wd hw 124 rfl) (W151.nf (wd hw 125 rfl)) (by decide) (Wd := 0) (eqS W151.warm (wsEq hw) (wd hw 13 rfl) W151.old (Sv150.keepX K151 ala0) Sv151 hCS hcz (by decide) (by decide)) (Sv150.exa.keep K151) (by rw [hml]; rfl) [(.ref a151)] [] (lenOf pd17 rfl) rfl rfl (Nat.le_of_eq rfl) 185 (hb hby at_182) rfl (by decide) (by decide) (fun _ q => nomatch q) ?_
      intro v152 T152 h152 W152 K152 Ch152 Q152
      have H152 := W152.here; have z152 := K152.1
      obtain ⟨rfl, eh152⟩ := Q152
      show Goes p e below (PostN s Z h0 [] (Q0 Z cz fm p0 p1 p2 h0) room_1.cells room_1.slots) (T152.setTop (mkF m 185 #[.val (.long p0), .second, .val (.int p1), .val (.int p2), .val (.int (2 : Int32)), .val (.int (2 : Int32)), .val (.int v104), .val (.int v106), .val (.int v108), .val (.int v110), .val (.int v112), .val (.int v114), .val (.ref a115), .val (.ref a120), .val (.ref a149), .val (.ref a150), .val (.ref a151)] [(.int (if ([v104, v106] : List Int32) = ([v104, v106] : List Int32) then (1 : Int32) else (0 : Int32)))]))
      exact Wk.retN W152 hx (if ([v104, v106] : List Int32) = ([v104, v106] : List Int32) then (1 : Int32) else (0 : Int32)) (t := .boolean) (by split <;> rfl) (by simp) hret hlk (hb hby at_185) (by decide) (by decide) (by unfold Q0; simp)
  ·
    rcases own_nl hv102 with rfl | rfl
    ·
      refine G.aload H124 hx 125 (hb hby at_123) rfl rfl rfl ?_
      refine G.iload H124 hx 127 (hb hby at_125) rfl rfl ?_
      refine G.bipush H124 hx 129 (58 : Int32) (hb hby at_127) rfl rfl ?_
      refine Wk.castore W124 hx V124 (Or.inr (by omega)) (58 : Int32) rfl 3 rfl ⟨by decide, by decide⟩ (Nat.le_of_ble_eq_true rfl) 130 (hb hby at_129) rfl ?_
      intro T153 h153 W153 K153 Ch153 V153; have H153 := W153.here; have z153 := K153.1
      have V153 : Arv Z h153 a120 k120 .char (7 : Int32) [(.int v104), (.int v106), (.int v108), (.int (58 : Int32)), (.int (0 : Int32)), (.int (0 : Int32)), (.int (0 : Int32))] (.int (0 : Int32)) := V153
      refine G.aload H153 hx 132 (hb hby at_130) rfl rfl rfl ?_
      refine G.iload H153 hx 134 (hb hby at_132) rfl rfl ?_
      refine G.iconst H153 hx 135 (1 : Int32) (hb hby at_134) rfl rfl ?_
      refine G.iaddF H153 hx 136 (4 : Int32) (hb hby at_135) (by decide) rfl ?_
      refine G.iload H153 hx 138 (hb hby at_136) rfl rfl ?_
      refine Wk.castore W153 hx V153 (Or.inr (by omega)) v112 (nar_c16 (own_l1 hv112 : C8 v112 ∧ ¬ v112 = 58).1.up) 4 rfl ⟨by decide, by decide⟩ (Nat.le_of_ble_eq_true rfl) 139 (hb hby at_138) rfl ?_
      intro T154 h154 W154 K154 Ch154 V154; have H154 := W154.here; have z154 := K154.1
      have V154 : Arv Z h154 a120 k120 .char (7 : Int32) [(.int v104), (.int v106), (.int v108), (.int (58 : Int32)), (.int v112), (.int (0 : Int32)), (.int (0 : Int32))] (.int (0 : Int32)) := V154
      refine G.aload H154 hx 141 (hb hby at_139) rfl rfl rfl ?_
      refine G.iload H154 hx 143 (hb hby at_141) rfl rfl ?_
      refine G.iconst H154 hx 144 (2 : Int32) (hb hby at_143) rfl rfl ?_
      refine G.iaddF H154 hx 145 (5 : Int32) (hb hby at_144) (by decide) rfl ?_
      refine G.iload H154 hx 147 (hb hby at_145) rfl rfl ?_
      refine Wk.castore W154 hx V154 (Or.inr (by omega)) v114 (nar_c16 (own_l2 hv114 : C8 v114 ∧ ¬ v114 = 58).1.up) 5 rfl ⟨by decide, by decide⟩ (Nat.le_of_ble_eq_true rfl) 148 (hb hby at_147) rfl ?_
      intro T155 h155 W155 K155 Ch155 V155; have H155 := W155.here; have z155 := K155.1
      have V155 : Arv Z h155 a120 k120 .char (7 : Int32) [(.int v104), (.int v106), (.int v108), (.int (58 : Int32)), (.int v112), (.int v114), (.int (0 : Int32))] (.int (0 : Int32)) := V155
      refine G.aload H155 hx 150 (hb hby at_148) rfl rfl rfl ?_
      refine G.iload H155 hx 152 (hb hby at_150) rfl rfl ?_
      refine G.iconst H155 hx 153 (1 : Int32) (hb hby at_152) rfl rfl ?_
      refine G.iaddF H155 hx 154 (4 : Int32) (hb hby at_153) (by decide) rfl ?_
      refine G.iload H155 hx 156 (hb hby at_154) rfl rfl ?_
      refine G.iaddF H155 hx 157 (5 : Int32) (hb hby at_156) (by decide) rfl ?_
      refine Wk.callS W155 hx hoZ (y := (⟨"com/example/federation/federation/NamesDomainOfPinLaw", "text", "([CI)Ljava/lang/String;"⟩ : MethodName)) (wd hw 9 rfl) (wd hw 10 rfl) (wd hw 2 rfl) (wd hw 11 rfl) (by decide) (Wd := 0) (CN.back (rmTx7_5 l Z a0 hw cz a120 k120 v104 v106 v108 (58 : Int32) v112 v114 (0 : Int32) h155 W155.old hCS hcz V155 (own_l1 hv104 : C8 v104 ∧ ¬ v104 = 58).1 (own_l2 hv106 : C8 v106 ∧ ¬ v106 = 58).1 (own_l2 hv108 : C8 v108 ∧ ¬ v108 = 58).1 (C8.of (by decide)) (own_l1 hv112 : C8 v112 ∧ ¬ v112 = 58).1) W155.warm (wd hw 11 rfl) (wd hw 2 rfl) (by decide) (by decide)) (by rw [hml]; rfl) [(.ref a120), (.int (5 : Int32))] [] (lenOf pd15 rfl) rfl rfl (Nat.le_of_eq rfl) 160 (hb hby at_157) rfl (by decide) (by decide) (fun _ q => nomatch q) ?_
      intro v156 T156 h156 W156 K156 Ch156 Q156
      have H156 := W156.here; have z156 := K156.1
      obtain ⟨a156, rfl, g156, Sv156⟩ := Q156; have l156 := ltN Sv156.lt
      show Goes p e below (PostN s Z h0 [] (Q0 Z cz fm p0 p1 p2 h0) room_1.cells room_1.slots) (T156.setTop (mkF m 160 #[.val (.long p0), .second, .val (.int p1), .val (.int p2), .val (.int (3 : Int32)), .val (.int (1 : Int32)), .val (.int v104), .val (.int v106), .val (.int v108), .val (.int v110), .val (.int v112), .val (.int v114), .val (.ref a115), .val (.ref a120), .unset, .unset, .unset] [(.ref a156)]))
      refine G.astore H156 hx 162 #[.val (.long p0), .second, .val (.int p1), .val (.int p2), .val (.int (3 : Int32)), .val (.int (1 : Int32)), .val (.int v104), .val (.int v106), .val (.int v108), .val (.int v110), .val (.int v112), .val (.int v114), .val (.ref a115), .val (.ref a120), .val (.ref a156), .unset, .unset] (hb hby at_160) rfl rfl rfl ?_
      refine G.aload H156 hx 164 (hb hby at_162) rfl rfl rfl ?_
      refine G.iload H156 hx 166 (hb hby at_164) rfl rfl ?_
      refine Wk.callS W156 hx hoZ (y := (⟨"com/example/federation/federation/NamesDomainOfPinLaw", "text", "([CI)Ljava/lang/String;"⟩ : MethodName)) (wd hw 9 rfl) (wd hw 10 rfl) (wd hw 2 rfl) (wd hw 11 rfl) (by decide) (Wd := 0) (CN.back (rmTx4_3 l Z a0 hw cz a115 k115 v104 v106 v108 v110 h156 W156.old hCS hcz (((((((((V119.ext E120).keep K121 (ninS (neA (by omega)) nin0)).keep K122 (ninS (neA (by omega)) nin0)).keep K123 (ninS (neA (by omega)) nin0)).keep K124 (ninS (neA (by omega)) nin0)).keep K153 (ninS (neA (by omega)) nin0)).keep K154 (ninS (neA (by omega)) nin0)).keep K155 (ninS (neA (by omega)) nin0)).keep K156 nin0) (own_l1 hv104 : C8 v104 ∧ ¬ v104 = 58).1 (own_l2 hv106 : C8 v106 ∧ ¬ v106 = 58).1 (own_l2 hv108 : C8 v108 ∧ ¬ v108 = 58).1) W156.warm (wd hw 11 rfl) (wd hw 2 rfl) (by decide) (by decide)) (by rw [hml]; rfl) [(.ref a115), (.int (3 : Int32))] [] (lenOf pd15 rfl) rfl rfl (Nat.le_of_eq rfl) 169 (hb hby at_166) rfl (by decide) (by decide) (fun _ q => nomatch q) ?_
      intro v157 T157 h157 W157 K157 Ch157 Q157
      have H157 := W157.here; have z157 := K157.1
      obtain ⟨a157, rfl, g157, Sv157⟩ := Q157; have l157 := ltN Sv157.lt
      show Goes p e below (PostN s Z h0 [] (Q0 Z cz fm p0 p1 p2 h0) room_1.cells room_1.slots) (T157.setTop (mkF m 169 #[.val (.long p0), .second, .val (.int p1), .val (.int p2), .val (.int (3 : Int32)), .val (.int (1 : Int32)), .val (.int v104), .val (.int v106), .val (.int v108), .val (.int v110), .val (.int v112), .val (.int v114), .val (.ref a115), .val (.ref a120), .val (.ref a156), .unset, .unset] [(.ref a157)]))
      refine G.astore H157 hx 171 #[.val (.long p0), .second, .val (.int p1), .val (.int p2), .val (.int (3 : Int32)), .val (.int (1 : Int32)), .val (.int v104), .val (.int v106), .val (.int v108), .val (.int v110), .val (.int v112), .val (.int v114), .val (.ref a115), .val (.ref a120), .val (.ref a156), .val (.ref a157), .unset] (hb hby at_169) rfl rfl rfl ?_
      refine G.aload H157 hx 173 (hb hby at_171) rfl rfl rfl ?_
      refine Wk.callS W157 hx hoZ (y := (⟨"com/example/federation/federation/Names", "domainOf", "(Ljava/lang/String;)Ljava/lang/String;"⟩ : MethodName)) (wd hw 41 rfl) (wd hw 42 rfl) (wd hw 43 rfl) (wd hw 44 rfl) (by decide) (Wd := 0) (CN.back (rmDm5_3 l Z a0 hw cz fm a156 v104 v106 v108 v112 h157 W157.old hCS hcz hFM hfm (Sv156.keepX K157 ala0) (own_l1 hv104 : C8 v104 ∧ ¬ v104 = 58).1 (own_l2 hv106 : C8 v106 ∧ ¬ v106 = 58).1 (own_l2 hv108 : C8 v108 ∧ ¬ v108 = 58).1 (own_l1 hv112 : C8 v112 ∧ ¬ v112 = 58).1 (own_l1 hv104 : C8 v104 ∧ ¬ v104 = 58).2 (own_l2 hv106 : C8 v106 ∧ ¬ v106 = 58).2 (own_l2 hv108 : C8 v108 ∧ ¬ v108 = 58).2) W157.warm (wd hw 44 rfl) (wd hw 43 rfl) (by decide) (by decide)) (by rw [hml]; rfl) [(.ref a156)] [] (lenOf pd16 rfl) rfl rfl (Nat.le_of_eq rfl) 176 (hb hby at_173) rfl (by decide) (by decide) (fun _ q => nomatch q) ?_
      intro v158 T158 h158 W158 K158 Ch158 Q158
      have H158 := W158.here; have z158 := K158.1
      obtain ⟨a158, rfl, g158, Sv158⟩ := Q158; have l158 := ltN Sv158.lt
      show Goes p e below (PostN s Z h0 [] (Q0 Z cz fm p0 p1 p2 h0) room_1.cells room_1.slots) (T158.setTop (mkF m 176 #[.val (.long p0), .second, .val (.int p1), .val (.int p2), .val (.int (3 : Int32)), .val (.int (1 : Int32)), .val (.int v104), .val (.int v106), .val (.int v108), .val (.int v110), .val (.int v112), .val (.int v114), .val (.ref a115), .val (.ref a120), .val (.ref a156), .val (.ref a157), .unset] [(.ref a158)]))
      refine G.astore H158 hx 178 #[.val (.long p0), .second, .val (.int p1), .val (.int p2), .val (.int (3 : Int32)), .val (.int (1 : Int32)), .val (.int v104), .val (.int v106), .val (.int v108), .val (.int v110), .val (.int v112), .val (.int v114), .val (.ref a115), .val (.ref a120), .val (.ref a156), .val (.ref a157), .val (.ref a158)] (hb hby at_176) rfl rfl rfl ?_
      refine G.aload H158 hx 180 (hb hby at_178) rfl rfl rfl ?_
      refine G.aload H158 hx 182 (hb hby at_180) rfl rfl rfl ?_
      refine Wk.virtual W158 hx hoZ (y := (⟨"java/lang/String", "equals", "(Ljava/lang/Object;)Z"⟩ : MethodName)) (z := (⟨"java/lang/String", "equals", "(Ljava/lang/Object;)Z"⟩ : MethodName)) (wd hw 122 rfl) (wd hw 123 rfl) (wd hw 125 rfl) (wd hw 124 rfl) (W158.nf (wd hw 125 rfl)) (by decide) (Wd := 0) (eqS W158.warm (wsEq hw) (wd hw 13 rfl) W158.old (Sv157.keepX K158 ala0) Sv158 hCS hcz (by decide) (by decide)) (Sv157.exa.keep K158) (by rw [hml]; rfl) [(.ref a158)] [] (lenOf pd17 rfl) rfl rfl (Nat.le_of_eq rfl) 185 (hb hby at_182) rfl (by decide) (by decide) (fun _ q => nomatch q) ?_
      intro v159 T159 h159 W159 K159 Ch159 Q159
      have H159 := W159.here; have z159 := K159.1
      obtain ⟨rfl, eh159⟩ := Q159
      show Goes p e below (PostN s Z h0 [] (Q0 Z cz fm p0 p1 p2 h0) room_1.cells room_1.slots) (T159.setTop (mkF m 185 #[.val (.long p0), .second, .val (.int p1), .val (.int p2), .val (.int (3 : Int32)), .val (.int (1 : Int32)), .val (.int v104), .val (.int v106), .val (.int v108), .val (.int v110), .val (.int v112), .val (.int v114), .val (.ref a115), .val (.ref a120), .val (.ref a156), .val (.ref a157), .val (.ref a158)] [(.int (if ([v104, v106, v108] : List Int32) = ([v104, v106, v108] : List Int32) then (1 : Int32) else (0 : Int32)))]))
      exact Wk.retN W159 hx (if ([v104, v106, v108] : List Int32) = ([v104, v106, v108] : List Int32) then (1 : Int32) else (0 : Int32)) (t := .boolean) (by split <;> rfl) (by simp) hret hlk (hb hby at_185) (by decide) (by decide) (by unfold Q0; simp)
    ·
      refine G.aload H124 hx 125 (hb hby at_123) rfl rfl rfl ?_
      refine G.iload H124 hx 127 (hb hby at_125) rfl rfl ?_
      refine G.bipush H124 hx 129 (58 : Int32) (hb hby at_127) rfl rfl ?_
      refine Wk.castore W124 hx V124 (Or.inr (by omega)) (58 : Int32) rfl 3 rfl ⟨by decide, by decide⟩ (Nat.le_of_ble_eq_true rfl) 130 (hb hby at_129) rfl ?_
      intro T160 h160 W160 K160 Ch160 V160; have H160 := W160.here; have z160 := K160.1
      have V160 : Arv Z h160 a120 k120 .char (7 : Int32) [(.int v104), (.int v106), (.int v108), (.int (58 : Int32)), (.int (0 : Int32)), (.int (0 : Int32)), (.int (0 : Int32))] (.int (0 : Int32)) := V160
      refine G.aload H160 hx 132 (hb hby at_130) rfl rfl rfl ?_
      refine G.iload H160 hx 134 (hb hby at_132) rfl rfl ?_
      refine G.iconst H160 hx 135 (1 : Int32) (hb hby at_134) rfl rfl ?_
      refine G.iaddF H160 hx 136 (4 : Int32) (hb hby at_135) (by decide) rfl ?_
      refine G.iload H160 hx 138 (hb hby at_136) rfl rfl ?_
      refine Wk.castore W160 hx V160 (Or.inr (by omega)) v112 (nar_c16 (own_l1 hv112 : C8 v112 ∧ ¬ v112 = 58).1.up) 4 rfl ⟨by decide, by decide⟩ (Nat.le_of_ble_eq_true rfl) 139 (hb hby at_138) rfl ?_
      intro T161 h161 W161 K161 Ch161 V161; have H161 := W161.here; have z161 := K161.1
      have V161 : Arv Z h161 a120 k120 .char (7 : Int32) [(.int v104), (.int v106), (.int v108), (.int (58 : Int32)), (.int v112), (.int (0 : Int32)), (.int (0 : Int32))] (.int (0 : Int32)) := V161
      refine G.aload H161 hx 141 (hb hby at_139) rfl rfl rfl ?_
      refine G.iload H161 hx 143 (hb hby at_141) rfl rfl ?_
      refine G.iconst H161 hx 144 (2 : Int32) (hb hby at_143) rfl rfl ?_
      refine G.iaddF H161 hx 145 (5 : Int32) (hb hby at_144) (by decide) rfl ?_
      refine G.iload H161 hx 147 (hb hby at_145) rfl rfl ?_
      refine Wk.castore W161 hx V161 (Or.inr (by omega)) v114 (nar_c16 (own_l2 hv114 : C8 v114 ∧ ¬ v114 = 58).1.up) 5 rfl ⟨by decide, by decide⟩ (Nat.le_of_ble_eq_true rfl) 148 (hb hby at_147) rfl ?_
      intro T162 h162 W162 K162 Ch162 V162; have H162 := W162.here; have z162 := K162.1
      have V162 : Arv Z h162 a120 k120 .char (7 : Int32) [(.int v104), (.int v106), (.int v108), (.int (58 : Int32)), (.int v112), (.int v114), (.int (0 : Int32))] (.int (0 : Int32)) := V162
      refine G.aload H162 hx 150 (hb hby at_148) rfl rfl rfl ?_
      refine G.iload H162 hx 152 (hb hby at_150) rfl rfl ?_
      refine G.iconst H162 hx 153 (1 : Int32) (hb hby at_152) rfl rfl ?_
      refine G.iaddF H162 hx 154 (4 : Int32) (hb hby at_153) (by decide) rfl ?_
      refine G.iload H162 hx 156 (hb hby at_154) rfl rfl ?_
      refine G.iaddF H162 hx 157 (6 : Int32) (hb hby at_156) (by decide) rfl ?_
      refine Wk.callS W162 hx hoZ (y := (⟨"com/example/federation/federation/NamesDomainOfPinLaw", "text", "([CI)Ljava/lang/String;"⟩ : MethodName)) (wd hw 9 rfl) (wd hw 10 rfl) (wd hw 2 rfl) (wd hw 11 rfl) (by decide) (Wd := 0) (CN.back (rmTx7_6 l Z a0 hw cz a120 k120 v104 v106 v108 (58 : Int32) v112 v114 (0 : Int32) h162 W162.old hCS hcz V162 (own_l1 hv104 : C8 v104 ∧ ¬ v104 = 58).1 (own_l2 hv106 : C8 v106 ∧ ¬ v106 = 58).1 (own_l2 hv108 : C8 v108 ∧ ¬ v108 = 58).1 (C8.of (by decide)) (own_l1 hv112 : C8 v112 ∧ ¬ v112 = 58).1 (own_l2 hv114 : C8 v114 ∧ ¬ v114 = 58).1) W162.warm (wd hw 11 rfl) (wd hw 2 rfl) (by decide) (by decide)) (by rw [hml]; rfl) [(.ref a120), (.int (6 : Int32))] [] (lenOf pd15 rfl) rfl rfl (Nat.le_of_eq rfl) 160 (hb hby at_157) rfl (by decide) (by decide) (fun _ q => nomatch q) ?_
      intro v163 T163 h163 W163 K163 Ch163 Q163
      have H163 := W163.here; have z163 := K163.1
      obtain ⟨a163, rfl, g163, Sv163⟩ := Q163; have l163 := ltN Sv163.lt
      show Goes p e below (PostN s Z h0 [] (Q0 Z cz fm p0 p1 p2 h0) room_1.cells room_1.slots) (T163.setTop (mkF m 160 #[.val (.long p0), .second, .val (.int p1), .val (.int p2), .val (.int (3 : Int32)), .val (.int (2 : Int32)), .val (.int v104), .val (.int v106), .val (.int v108), .val (.int v110), .val (.int v112), .val (.int v114), .val (.ref a115), .val (.ref a120), .unset, .unset, .unset] [(.ref a163)]))
      refine G.astore H163 hx 162 #[.val (.long p0), .second, .val (.int p1), .val (.int p2), .val (.int (3 : Int32)), .val (.int (2 : Int32)), .val (.int v104), .val (.int v106), .val (.int v108), .val (.int v110), .val (.int v112), .val (.int v114), .val (.ref a115), .val (.ref a120), .val (.ref a163), .unset, .unset] (hb hby at_160) rfl rfl rfl ?_
      refine G.aload H163 hx 164 (hb hby at_162) rfl rfl rfl ?_
      refine G.iload H163 hx 166 (hb hby at_164) rfl rfl ?_
      refine Wk.callS W163 hx hoZ (y := (⟨"com/example/federation/federation/NamesDomainOfPinLaw", "text", "([CI)Ljava/lang/String;"⟩ : MethodName)) (wd hw 9 rfl) (wd hw 10 rfl) (wd hw 2 rfl) (wd hw 11 rfl) (by decide) (Wd := 0) (CN.back (rmTx4_3 l Z a0 hw cz a115 k115 v104 v106 v108 v110 h163 W163.old hCS hcz (((((((((V119.ext E120).keep K121 (ninS (neA (by omega)) nin0)).keep K122 (ninS (neA (by omega)) nin0)).keep K123 (ninS (neA (by omega)) nin0)).keep K124 (ninS (neA (by omega)) nin0)).keep K160 (ninS (neA (by omega)) nin0)).keep K161 (ninS (neA (by omega)) nin0)).keep K162 (ninS (neA (by omega)) nin0)).keep K163 nin0) (own_l1 hv104 : C8 v104 ∧ ¬ v104 = 58).1 (own_l2 hv106 : C8 v106 ∧ ¬ v106 = 58).1 (own_l2 hv108 : C8 v108 ∧ ¬ v108 = 58).1) W163.warm (wd hw 11 rfl) (wd hw 2 rfl) (by decide) (by decide)) (by rw [hml]; rfl) [(.ref a115), (.int (3 : Int32))] [] (lenOf pd15 rfl) rfl rfl (Nat.le_of_eq rfl) 169 (hb hby at_166) rfl (by decide) (by decide) (fun _ q => nomatch q) ?_
      intro v164 T164 h164 W164 K164 Ch164 Q164
      have H164 := W164.here; have z164 := K164.1
      obtain ⟨a164, rfl, g164, Sv164⟩ := Q164; have l164 := ltN Sv164.lt
      show Goes p e below (PostN s Z h0 [] (Q0 Z cz fm p0 p1 p2 h0) room_1.cells room_1.slots) (T164.setTop (mkF m 169 #[.val (.long p0), .second, .val (.int p1), .val (.int p2), .val (.int (3 : Int32)), .val (.int (2 : Int32)), .val (.int v104), .val (.int v106), .val (.int v108), .val (.int v110), .val (.int v112), .val (.int v114), .val (.ref a115), .val (.ref a120), .val (.ref a163), .unset, .unset] [(.ref a164)]))
      refine G.astore H164 hx 171 #[.val (.long p0), .second, .val (.int p1), .val (.int p2), .val (.int (3 : Int32)), .val (.int (2 : Int32)), .val (.int v104), .val (.int v106), .val (.int v108), .val (.int v110), .val (.int v112), .val (.int v114), .val (.ref a115), .val (.ref a120), .val (.ref a163), .val (.ref a164), .unset] (hb hby at_169) rfl rfl rfl ?_
      refine G.aload H164 hx 173 (hb hby at_171) rfl rfl rfl ?_
      refine Wk.callS W164 hx hoZ (y := (⟨"com/example/federation/federation/Names", "domainOf", "(Ljava/lang/String;)Ljava/lang/String;"⟩ : MethodName)) (wd hw 41 rfl) (wd hw 42 rfl) (wd hw 43 rfl) (wd hw 44 rfl) (by decide) (Wd := 0) (CN.back (rmDm6_3 l Z a0 hw cz fm a163 v104 v106 v108 v112 v114 h164 W164.old hCS hcz hFM hfm (Sv163.keepX K164 ala0) (own_l1 hv104 : C8 v104 ∧ ¬ v104 = 58).1 (own_l2 hv106 : C8 v106 ∧ ¬ v106 = 58).1 (own_l2 hv108 : C8 v108 ∧ ¬ v108 = 58).1 (own_l1 hv112 : C8 v112 ∧ ¬ v112 = 58).1 (own_l2 hv114 : C8 v114 ∧ ¬ v114 = 58).1 (own_l1 hv104 : C8 v104 ∧ ¬ v104 = 58).2 (own_l2 hv106 : C8 v106 ∧ ¬ v106 = 58).2 (own_l2 hv108 : C8 v108 ∧ ¬ v108 = 58).2) W164.warm (wd hw 44 rfl) (wd hw 43 rfl) (by decide) (by decide)) (by rw [hml]; rfl) [(.ref a163)] [] (lenOf pd16 rfl) rfl rfl (Nat.le_of_eq rfl) 176 (hb hby at_173) rfl (by decide) (by decide) (fun _ q => nomatch q) ?_
      intro v165 T165 h165 W165 K165 Ch165 Q165
      have H165 := W165.here; have z165 := K165.1
      obtain ⟨a165, rfl, g165, Sv165⟩ := Q165; have l165 := ltN Sv165.lt
      show Goes p e below (PostN s Z h0 [] (Q0 Z cz fm p0 p1 p2 h0) room_1.cells room_1.slots) (T165.setTop (mkF m 176 #[.val (.long p0), .second, .val (.int p1), .val (.int p2), .val (.int (3 : Int32)), .val (.int (2 : Int32)), .val (.int v104), .val (.int v106), .val (.int v108), .val (.int v110), .val (.int v112), .val (.int v114), .val (.ref a115), .val (.ref a120), .val (.ref a163), .val (.ref a164), .unset] [(.ref a165)]))
      refine G.astore H165 hx 178 #[.val (.long p0), .second, .val (.int p1), .val (.int p2), .val (.int (3 : Int32)), .val (.int (2 : Int32)), .val (.int v104), .val (.int v106), .val (.int v108), .val (.int v110), .val (.int v112), .val (.int v114), .val (.ref a115), .val (.ref a120), .val (.ref a163), .val (.ref a164), .val (.ref a165)] (hb hby at_176) rfl rfl rfl ?_
      refine G.aload H165 hx 180 (hb hby at_178) rfl rfl rfl ?_
      refine G.aload H165 hx 182 (hb hby at_180) rfl rfl rfl ?_
      refine Wk.virtual W165 hx hoZ (y := (⟨"java/lang/String", "equals", "(Ljava/lang/Object;)Z"⟩ : MethodName)) (z := (⟨"java/lang/String", "equals", "(Ljava/lang/Object;)Z"⟩ : MethodName)) (wd hw 122 rfl) (wd hw 123 rfl) (wd hw 125 rfl) (wd hw 124 rfl) (W165.nf (wd hw 125 rfl)) (by decide) (Wd := 0) (eqS W165.warm (wsEq hw) (wd hw 13 rfl) W165.old (Sv164.keepX K165 ala0) Sv165 hCS hcz (by decide) (by decide)) (Sv164.exa.keep K165) (by rw [hml]; rfl) [(.ref a165)] [] (lenOf pd17 rfl) rfl rfl (Nat.le_of_eq rfl) 185 (hb hby at_182) rfl (by decide) (by decide) (fun _ q => nomatch q) ?_
      intro v166 T166 h166 W166 K166 Ch166 Q166
      have H166 := W166.here; have z166 := K166.1
      obtain ⟨rfl, eh166⟩ := Q166
      show Goes p e below (PostN s Z h0 [] (Q0 Z cz fm p0 p1 p2 h0) room_1.cells room_1.slots) (T166.setTop (mkF m 185 #[.val (.long p0), .second, .val (.int p1), .val (.int p2), .val (.int (3 : Int32)), .val (.int (2 : Int32)), .val (.int v104), .val (.int v106), .val (.int v108), .val (.int v110), .val (.int v112), .val (.int v114), .val (.ref a115), .val (.ref a120), .val (.ref a163), .val (.ref a164), .val (.ref a165)] [(.int (if ([v104, v106, v108] : List Int32) = ([v104, v106, v108] : List Int32) then (1 : Int32) else (0 : Int32)))]))
      exact Wk.retN W166 hx (if ([v104, v106, v108] : List Int32) = ([v104, v106, v108] : List Int32) then (1 : Int32) else (0 : Int32)) (t := .boolean) (by split <;> rfl) (by simp) hret hlk (hb hby at_185) (by decide) (by decide) (by unfold Q0; simp)
  ·
    rcases own_nl hv102 with rfl | rfl
    ·
      refine G.aload H124 hx 125 (hb hby at_123) rfl rfl rfl ?_
      refine G.iload H124 hx 127 (hb hby at_125) rfl rfl ?_
      refine G.bipush H124 hx 129 (58 : Int32) (hb hby at_127) rfl rfl ?_
      refine Wk.castore W124 hx V124 (Or.inr (by omega)) (58 : Int32) rfl 4 rfl ⟨by decide, by decide⟩ (Nat.le_of_ble_eq_true rfl) 130 (hb hby at_129) rfl ?_
      intro T167 h167 W167 K167 Ch167 V167; have H167 := W167.here; have z167 := K167.1
      have V167 : Arv Z h167 a120 k120 .char (7 : Int32) [(.int v104), (.int v106), (.int v108), (.int v110), (.int (58 : Int32)), (.int (0 : Int32)), (.int (0 : Int32))] (.int (0 : Int32)) := V167
      refine G.aload H167 hx 132 (hb hby at_130) rfl rfl rfl ?_
      refine G.iload H167 hx 134 (hb hby at_132) rfl rfl ?_
      refine G.iconst H167 hx 135 (1 : Int32) (hb hby at_134) rfl rfl ?_
      refine G.iaddF H167 hx 136 (5 : Int32) (hb hby at_135) (by decide) rfl ?_
      refine G.iload H167 hx 138 (hb hby at_136) rfl rfl ?_
      refine Wk.castore W167 hx V167 (Or.inr (by omega)) v112 (nar_c16 (own_l1 hv112 : C8 v112 ∧ ¬ v112 = 58).1.up) 5 rfl ⟨by decide, by decide⟩ (Nat.le_of_ble_eq_true rfl) 139 (hb hby at_138) rfl ?_
      intro T168 h168 W168 K168 Ch168 V168; have H168 := W168.here; have z168 := K168.1
      have V168 : Arv Z h168 a120 k120 .char (7 : Int32) [(.int v104), (.int v106), (.int v108), (.int v110), (.int (58 : Int32)), (.int v112), (.int (0 : Int32))] (.int (0 : Int32)) := V168
      refine G.aload H168 hx 141 (hb hby at_139) rfl rfl rfl ?_
      refine G.iload H168 hx 143 (hb hby at_141) rfl rfl ?_
      refine G.iconst H168 hx 144 (2 : Int32) (hb hby at_143) rfl rfl ?_
      refine G.iaddF H168 hx 145 (6 : Int32) (hb hby at_144) (by decide) rfl ?_
      refine G.iload H168 hx 147 (hb hby at_145) rfl rfl ?_
      refine Wk.castore W168 hx V168 (Or.inr (by omega)) v114 (nar_c16 (own_l2 hv114 : C8 v114 ∧ ¬ v114 = 58).1.up) 6 rfl ⟨by decide, by decide⟩ (Nat.le_of_ble_eq_true rfl) 148 (hb hby at_147) rfl ?_
      intro T169 h169 W169 K169 Ch169 V169; have H169 := W169.here; have z169 := K169.1
      have V169 : Arv Z h169 a120 k120 .char (7 : Int32) [(.int v104), (.int v106), (.int v108), (.int v110), (.int (58 : Int32)), (.int v112), (.int v114)] (.int (0 : Int32)) := V169
      refine G.aload H169 hx 150 (hb hby at_148) rfl rfl rfl ?_
      refine G.iload H169 hx 152 (hb hby at_150) rfl rfl ?_
      refine G.iconst H169 hx 153 (1 : Int32) (hb hby at_152) rfl rfl ?_
      refine G.iaddF H169 hx 154 (5 : Int32) (hb hby at_153) (by decide) rfl ?_
      refine G.iload H169 hx 156 (hb hby at_154) rfl rfl ?_
      refine G.iaddF H169 hx 157 (6 : Int32) (hb hby at_156) (by decide) rfl ?_
      refine Wk.callS W169 hx hoZ (y := (⟨"com/example/federation/federation/NamesDomainOfPinLaw", "text", "([CI)Ljava/lang/String;"⟩ : MethodName)) (wd hw 9 rfl) (wd hw 10 rfl) (wd hw 2 rfl) (wd hw 11 rfl) (by decide) (Wd := 0) (CN.back (rmTx7_6 l Z a0 hw cz a120 k120 v104 v106 v108 v110 (58 : Int32) v112 v114 h169 W169.old hCS hcz V169 (own_l1 hv104 : C8 v104 ∧ ¬ v104 = 58).1 (own_l2 hv106 : C8 v106 ∧ ¬ v106 = 58).1 (own_l2 hv108 : C8 v108 ∧ ¬ v108 = 58).1 (own_l2 hv110 : C8 v110 ∧ ¬ v110 = 58).1 (C8.of (by decide)) (own_l1 hv112 : C8 v112 ∧ ¬ v112 = 58).1) W169.warm (wd hw 11 rfl) (wd hw 2 rfl) (by decide) (by decide)) (by rw [hml]; rfl) [(.ref a120), (.int (6 : Int32))] [] (lenOf pd15 rfl) rfl rfl (Nat.le_of_eq rfl) 160 (hb hby at_157) rfl (by decide) (by decide) (fun _ q => nomatch q) ?_
      intro v170 T170 h170 W170 K170 Ch170 Q170
      have H170 := W170.here; have z170 := K170.1
      obtain ⟨a170, rfl, g170, Sv170⟩ := Q170; have l170 := ltN Sv170.lt
      show Goes p e below (PostN s Z h0 [] (Q0 Z cz fm p0 p1 p2 h0) room_1.cells room_1.slots) (T170.setTop (mkF m 160 #[.val (.long p0), .second, .val (.int p1), .val (.int p2), .val (.int (4 : Int32)), .val (.int (1 : Int32)), .val (.int v104), .val (.int v106), .val (.int v108), .val (.int v110), .val (.int v112), .val (.int v114), .val (.ref a115), .val (.ref a120), .unset, .unset, .unset] [(.ref a170)]))
      refine G.astore H170 hx 162 #[.val (.long p0), .second, .val (.int p1), .val (.int p2), .val (.int (4 : Int32)), .val (.int (1 : Int32)), .val (.int v104), .val (.int v106), .val (.int v108), .val (.int v110), .val (.int v112), .val (.int v114), .val (.ref a115), .val (.ref a120), .val (.ref a170), .unset, .unset] (hb hby at_160) rfl rfl rfl ?_
      refine G.aload H170 hx 164 (hb hby at_162) rfl rfl rfl ?_
      refine G.iload H170 hx 166 (hb hby at_164) rfl rfl ?_
      refine Wk.callS W170 hx hoZ (y := (⟨"com/example/federation/federation/NamesDomainOfPinLaw", "text", "([CI)Ljava/lang/String;"⟩ : MethodName)) (wd hw 9 rfl) (wd hw 10 rfl) (wd hw 2 rfl) (wd hw 11 rfl) (by decide) (Wd := 0) (CN.back (rmTx4_4 l Z a0 hw cz a115 k115 v104 v106 v108 v110 h170 W170.old hCS hcz (((((((((V119.ext E120).keep K121 (ninS (neA (by omega)) nin0)).keep K122 (ninS (neA (by omega)) nin0)).keep K123 (ninS (neA (by omega)) nin0)).keep K124 (ninS (neA (by omega)) nin0)).keep K167 (ninS (neA (by omega)) nin0)).keep K168 (ninS (neA (by omega)) nin0)).keep K169 (ninS (neA (by omega)) nin0)).keep K170 nin0) (own_l1 hv104 : C8 v104 ∧ ¬ v104 = 58).1 (own_l2 hv106 : C8 v106 ∧ ¬ v106 = 58).1 (own_l2 hv108 : C8 v108 ∧ ¬ v108 = 58).1 (own_l2 hv110 : C8 v110 ∧ ¬ v110 = 58).1) W170.warm (wd hw 11 rfl) (wd hw 2 rfl) (by decide) (by decide)) (by rw [hml]; rfl) [(.ref a115), (.int (4 : Int32))] [] (lenOf pd15 rfl) rfl rfl (Nat.le_of_eq rfl) 169 (hb hby at_166) rfl (by decide) (by decide) (fun _ q => nomatch q) ?_
      intro v171 T171 h171 W171 K171 Ch171 Q171
      have H171 := W171.here; have z171 := K171.1
      obtain ⟨a171, rfl, g171, Sv171⟩ := Q171; have l171 := ltN Sv171.lt
      show Goes p e below (PostN s Z h0 [] (Q0 Z cz fm p0 p1 p2 h0) room_1.cells room_1.slots) (T171.setTop (mkF m 169 #[.val (.long p0), .second, .val (.int p1), .val (.int p2), .val (.int (4 : Int32)), .val (.int (1 : Int32)), .val (.int v104), .val (.int v106), .val (.int v108), .val (.int v110), .val (.int v112), .val (.int v114), .val (.ref a115), .val (.ref a120), .val (.ref a170), .unset, .unset] [(.ref a171)]))
      refine G.astore H171 hx 171 #[.val (.long p0), .second, .val (.int p1), .val (.int p2), .val (.int (4 : Int32)), .val (.int (1 : Int32)), .val (.int v104), .val (.int v106), .val (.int v108), .val (.int v110), .val (.int v112), .val (.int v114), .val (.ref a115), .val (.ref a120), .val (.ref a170), .val (.ref a171), .unset] (hb hby at_169) rfl rfl rfl ?_
      refine G.aload H171 hx 173 (hb hby at_171) rfl rfl rfl ?_
      refine Wk.callS W171 hx hoZ (y := (⟨"com/example/federation/federation/Names", "domainOf", "(Ljava/lang/String;)Ljava/lang/String;"⟩ : MethodName)) (wd hw 41 rfl) (wd hw 42 rfl) (wd hw 43 rfl) (wd hw 44 rfl) (by decide) (Wd := 0) (CN.back (rmDm6_4 l Z a0 hw cz fm a170 v104 v106 v108 v110 v112 h171 W171.old hCS hcz hFM hfm (Sv170.keepX K171 ala0) (own_l1 hv104 : C8 v104 ∧ ¬ v104 = 58).1 (own_l2 hv106 : C8 v106 ∧ ¬ v106 = 58).1 (own_l2 hv108 : C8 v108 ∧ ¬ v108 = 58).1 (own_l2 hv110 : C8 v110 ∧ ¬ v110 = 58).1 (own_l1 hv112 : C8 v112 ∧ ¬ v112 = 58).1 (own_l1 hv104 : C8 v104 ∧ ¬ v104 = 58).2 (own_l2 hv106 : C8 v106 ∧ ¬ v106 = 58).2 (own_l2 hv108 : C8 v108 ∧ ¬ v108 = 58).2 (own_l2 hv110 : C8 v110 ∧ ¬ v110 = 58).2) W171.warm (wd hw 44 rfl) (wd hw 43 rfl) (by decide) (by decide)) (by rw [hml]; rfl) [(.ref a170)] [] (lenOf pd16 rfl) rfl rfl (Nat.le_of_eq rfl) 176 (hb hby at_173) rfl (by decide) (by decide) (fun _ q => nomatch q) ?_
      intro v172 T172 h172 W172 K172 Ch172 Q172
      have H172 := W172.here; have z172 := K172.1
      obtain ⟨a172, rfl, g172, Sv172⟩ := Q172; have l172 := ltN Sv172.lt
      show Goes p e below (PostN s Z h0 [] (Q0 Z cz fm p0 p1 p2 h0) room_1.cells room_1.slots) (T172.setTop (mkF m 176 #[.val (.long p0), .second, .val (.int p1), .val (.int p2), .val (.int (4 : Int32)), .val (.int (1 : Int32)), .val (.int v104), .val (.int v106), .val (.int v108), .val (.int v110), .val (.int v112), .val (.int v114), .val (.ref a115), .val (.ref a120), .val (.ref a170), .val (.ref a171), .unset] [(.ref a172)]))
      refine G.astore H172 hx 178 #[.val (.long p0), .second, .val (.int p1), .val (.int p2), .val (.int (4 : Int32)), .val (.int (1 : Int32)), .val (.int v104), .val (.int v106), .val (.int v108), .val (.int v110), .val (.int v112), .val (.int v114), .val (.ref a115), .val (.ref a120), .val (.ref a170), .val (.ref a171), .val (.ref a172)] (hb hby at_176) rfl rfl rfl ?_
      refine G.aload H172 hx 180 (hb hby at_178) rfl rfl rfl ?_
      refine G.aload H172 hx 182 (hb hby at_180) rfl rfl rfl ?_
      refine Wk.virtual W172 hx hoZ (y := (⟨"java/lang/String", "equals", "(Ljava/lang/Object;)Z"⟩ : MethodName)) (z := (⟨"java/lang/String", "equals", "(Ljava/lang/Object;)Z"⟩ : MethodName)) (wd hw 122 rfl) (wd hw 123 rfl) (wd hw 125 rfl) (wd hw 124 rfl) (W172.nf (wd hw 125 rfl)) (by decide) (Wd := 0) (eqS W172.warm (wsEq hw) (wd hw 13 rfl) W172.old (Sv171.keepX K172 ala0) Sv172 hCS hcz (by decide) (by decide)) (Sv171.exa.keep K172) (by rw [hml]; rfl) [(.ref a172)] [] (lenOf pd17 rfl) rfl rfl (Nat.le_of_eq rfl) 185 (hb hby at_182) rfl (by decide) (by decide) (fun _ q => nomatch q) ?_
      intro v173 T173 h173 W173 K173 Ch173 Q173
      have H173 := W173.here; have z173 := K173.1
      obtain ⟨rfl, eh173⟩ := Q173
      show Goes p e below (PostN s Z h0 [] (Q0 Z cz fm p0 p1 p2 h0) room_1.cells room_1.slots) (T173.setTop (mkF m 185 #[.val (.long p0), .second, .val (.int p1), .val (.int p2), .val (.int (4 : Int32)), .val (.int (1 : Int32)), .val (.int v104), .val (.int v106), .val (.int v108), .val (.int v110), .val (.int v112), .val (.int v114), .val (.ref a115), .val (.ref a120), .val (.ref a170), .val (.ref a171), .val (.ref a172)] [(.int (if ([v104, v106, v108, v110] : List Int32) = ([v104, v106, v108, v110] : List Int32) then (1 : Int32) else (0 : Int32)))]))
      exact Wk.retN W173 hx (if ([v104, v106, v108, v110] : List Int32) = ([v104, v106, v108, v110] : List Int32) then (1 : Int32) else (0 : Int32)) (t := .boolean) (by split <;> rfl) (by simp) hret hlk (hb hby at_185) (by decide) (by decide) (by unfold Q0; simp)
    ·
      refine G.aload H124 hx 125 (hb hby at_123) rfl rfl rfl ?_
      refine G.iload H124 hx 127 (hb hby at_125) rfl rfl ?_
      refine G.bipush H124 hx 129 (58 : Int32) (hb hby at_127) rfl rfl ?_
      refine Wk.castore W124 hx V124 (Or.inr (by omega)) (58 : Int32) rfl 4 rfl ⟨by decide, by decide⟩ (Nat.le_of_ble_eq_true rfl) 130 (hb hby at_129) rfl ?_
      intro T174 h174 W174 K174 Ch174 V174; have H174 := W174.here; have z174 := K174.1
      have V174 : Arv Z h174 a120 k120 .char (7 : Int32) [(.int v104), (.int v106), (.int v108), (.int v110), (.int (58 : Int32)), (.int (0 : Int32)), (.int (0 : Int32))] (.int (0 : Int32)) := V174
      refine G.aload H174 hx 132 (hb hby at_130) rfl rfl rfl ?_
      refine G.iload H174 hx 134 (hb hby at_132) rfl rfl ?_
      refine G.iconst H174 hx 135 (1 : Int32) (hb hby at_134) rfl rfl ?_
      refine G.iaddF H174 hx 136 (5 : Int32) (hb hby at_135) (by decide) rfl ?_
      refine G.iload H174 hx 138 (hb hby at_136) rfl rfl ?_
      refine Wk.castore W174 hx V174 (Or.inr (by omega)) v112 (nar_c16 (own_l1 hv112 : C8 v112 ∧ ¬ v112 = 58).1.up) 5 rfl ⟨by decide, by decide⟩ (Nat.le_of_ble_eq_true rfl) 139 (hb hby at_138) rfl ?_
      intro T175 h175 W175 K175 Ch175 V175; have H175 := W175.here; have z175 := K175.1
      have V175 : Arv Z h175 a120 k120 .char (7 : Int32) [(.int v104), (.int v106), (.int v108), (.int v110), (.int (58 : Int32)), (.int v112), (.int (0 : Int32))] (.int (0 : Int32)) := V175
      refine G.aload H175 hx 141 (hb hby at_139) rfl rfl rfl ?_
      refine G.iload H175 hx 143 (hb hby at_141) rfl rfl ?_
      refine G.iconst H175 hx 144 (2 : Int32) (hb hby at_143) rfl rfl ?_
      refine G.iaddF H175 hx 145 (6 : Int32) (hb hby at_144) (by decide) rfl ?_
      refine G.iload H175 hx 147 (hb hby at_145) rfl rfl ?_
      refine Wk.castore W175 hx V175 (Or.inr (by omega)) v114 (nar_c16 (own_l2 hv114 : C8 v114 ∧ ¬ v114 = 58).1.up) 6 rfl ⟨by decide, by decide⟩ (Nat.le_of_ble_eq_true rfl) 148 (hb hby at_147) rfl ?_
      intro T176 h176 W176 K176 Ch176 V176; have H176 := W176.here; have z176 := K176.1
      have V176 : Arv Z h176 a120 k120 .char (7 : Int32) [(.int v104), (.int v106), (.int v108), (.int v110), (.int (58 : Int32)), (.int v112), (.int v114)] (.int (0 : Int32)) := V176
      refine G.aload H176 hx 150 (hb hby at_148) rfl rfl rfl ?_
      refine G.iload H176 hx 152 (hb hby at_150) rfl rfl ?_
      refine G.iconst H176 hx 153 (1 : Int32) (hb hby at_152) rfl rfl ?_
      refine G.iaddF H176 hx 154 (5 : Int32) (hb hby at_153) (by decide) rfl ?_
      refine G.iload H176 hx 156 (hb hby at_154) rfl rfl ?_
      refine G.iaddF H176 hx 157 (7 : Int32) (hb hby at_156) (by decide) rfl ?_
      refine Wk.callS W176 hx hoZ (y := (⟨"com/example/federation/federation/NamesDomainOfPinLaw", "text", "([CI)Ljava/lang/String;"⟩ : MethodName)) (wd hw 9 rfl) (wd hw 10 rfl) (wd hw 2 rfl) (wd hw 11 rfl) (by decide) (Wd := 0) (CN.back (rmTx7_7 l Z a0 hw cz a120 k120 v104 v106 v108 v110 (58 : Int32) v112 v114 h176 W176.old hCS hcz V176 (own_l1 hv104 : C8 v104 ∧ ¬ v104 = 58).1 (own_l2 hv106 : C8 v106 ∧ ¬ v106 = 58).1 (own_l2 hv108 : C8 v108 ∧ ¬ v108 = 58).1 (own_l2 hv110 : C8 v110 ∧ ¬ v110 = 58).1 (C8.of (by decide)) (own_l1 hv112 : C8 v112 ∧ ¬ v112 = 58).1 (own_l2 hv114 : C8 v114 ∧ ¬ v114 = 58).1) W176.warm (wd hw 11 rfl) (wd hw 2 rfl) (by decide) (by decide)) (by rw [hml]; rfl) [(.ref a120), (.int (7 : Int32))] [] (lenOf pd15 rfl) rfl rfl (Nat.le_of_eq rfl) 160 (hb hby at_157) rfl (by decide) (by decide) (fun _ q => nomatch q) ?_
      intro v177 T177 h177 W177 K177 Ch177 Q177
      have H177 := W177.here; have z177 := K177.1
      obtain ⟨a177, rfl, g177, Sv177⟩ := Q177; have l177 := ltN Sv177.lt
      show Goes p e below (PostN s Z h0 [] (Q0 Z cz fm p0 p1 p2 h0) room_1.cells room_1.slots) (T177.setTop (mkF m 160 #[.val (.long p0), .second, .val (.int p1), .val (.int p2), .val (.int (4 : Int32)), .val (.int (2 : Int32)), .val (.int v104), .val (.int v106), .val (.int v108), .val (.int v110), .val (.int v112), .val (.int v114), .val (.ref a115), .val (.ref a120), .unset, .unset, .unset] [(.ref a177)]))
      refine G.astore H177 hx 162 #[.val (.long p0), .second, .val (.int p1), .val (.int p2), .val (.int (4 : Int32)), .val (.int (2 : Int32)), .val (.int v104), .val (.int v106), .val (.int v108), .val (.int v110), .val (.int v112), .val (.int v114), .val (.ref a115), .val (.ref a120), .val (.ref a177), .unset, .unset] (hb hby at_160) rfl rfl rfl ?_
      refine G.aload H177 hx 164 (hb hby at_162) rfl rfl rfl ?_
      refine G.iload H177 hx 166 (hb hby at_164) rfl rfl ?_
      refine Wk.callS W177 hx hoZ (y := (⟨"com/example/federation/federation/NamesDomainOfPinLaw", "text", "([CI)Ljava/lang/String;"⟩ : MethodName)) (wd hw 9 rfl) (wd hw 10 rfl) (wd hw 2 rfl) (wd hw 11 rfl) (by decide) (Wd := 0) (CN.back (rmTx4_4 l Z a0 hw cz a115 k115 v104 v106 v108 v110 h177 W177.old hCS hcz (((((((((V119.ext E120).keep K121 (ninS (neA (by omega)) nin0)).keep K122 (ninS (neA (by omega)) nin0)).keep K123 (ninS (neA (by omega)) nin0)).keep K124 (ninS (neA (by omega)) nin0)).keep K174 (ninS (neA (by omega)) nin0)).keep K175 (ninS (neA (by omega)) nin0)).keep K176 (ninS (neA (by omega)) nin0)).keep K177 nin0) (own_l1 hv104 : C8 v104 ∧ ¬ v104 = 58).1 (own_l2 hv106 : C8 v106 ∧ ¬ v106 = 58).1 (own_l2 hv108 : C8 v108 ∧ ¬ v108 = 58).1 (own_l2 hv110 : C8 v110 ∧ ¬ v110 = 58).1) W177.warm (wd hw 11 rfl) (wd hw 2 rfl) (by decide) (by decide)) (by rw [hml]; rfl) [(.ref a115), (.int (4 : Int32))] [] (lenOf pd15 rfl) rfl rfl (Nat.le_of_eq rfl) 169 (hb hby at_166) rfl (by decide) (by decide) (fun _ q => nomatch q) ?_
      intro v178 T178 h178 W178 K178 Ch178 Q178
      have H178 := W178.here; have z178 := K178.1
      obtain ⟨a178, rfl, g178, Sv178⟩ := Q178; have l178 := ltN Sv178.lt
      show Goes p e below (PostN s Z h0 [] (Q0 Z cz fm p0 p1 p2 h0) room_1.cells room_1.slots) (T178.setTop (mkF m 169 #[.val (.long p0), .second, .val (.int p1), .val (.int p2), .val (.int (4 : Int32)), .val (.int (2 : Int32)), .val (.int v104), .val (.int v106), .val (.int v108), .val (.int v110), .val (.int v112), .val (.int v114), .val (.ref a115), .val (.ref a120), .val (.ref a177), .unset, .unset] [(.ref a178)]))
      refine G.astore H178 hx 171 #[.val (.long p0), .second, .val (.int p1), .val (.int p2), .val (.int (4 : Int32)), .val (.int (2 : Int32)), .val (.int v104), .val (.int v106), .val (.int v108), .val (.int v110), .val (.int v112), .val (.int v114), .val (.ref a115), .val (.ref a120), .val (.ref a177), .val (.ref a178), .unset] (hb hby at_169) rfl rfl rfl ?_
      refine G.aload H178 hx 173 (hb hby at_171) rfl rfl rfl ?_
      refine Wk.callS W178 hx hoZ (y := (⟨"com/example/federation/federation/Names", "domainOf", "(Ljava/lang/String;)Ljava/lang/String;"⟩ : MethodName)) (wd hw 41 rfl) (wd hw 42 rfl) (wd hw 43 rfl) (wd hw 44 rfl) (by decide) (Wd := 0) (CN.back (rmDm7_4 l Z a0 hw cz fm a177 v104 v106 v108 v110 v112 v114 h178 W178.old hCS hcz hFM hfm (Sv177.keepX K178 ala0) (own_l1 hv104 : C8 v104 ∧ ¬ v104 = 58).1 (own_l2 hv106 : C8 v106 ∧ ¬ v106 = 58).1 (own_l2 hv108 : C8 v108 ∧ ¬ v108 = 58).1 (own_l2 hv110 : C8 v110 ∧ ¬ v110 = 58).1 (own_l1 hv112 : C8 v112 ∧ ¬ v112 = 58).1 (own_l2 hv114 : C8 v114 ∧ ¬ v114 = 58).1 (own_l1 hv104 : C8 v104 ∧ ¬ v104 = 58).2 (own_l2 hv106 : C8 v106 ∧ ¬ v106 = 58).2 (own_l2 hv108 : C8 v108 ∧ ¬ v108 = 58).2 (own_l2 hv110 : C8 v110 ∧ ¬ v110 = 58).2) W178.warm (wd hw 44 rfl) (wd hw 43 rfl) (by decide) (by decide)) (by rw [hml]; rfl) [(.ref a177)] [] (lenOf pd16 rfl) rfl rfl (Nat.le_of_eq rfl) 176 (hb hby at_173) rfl (by decide) (by decide) (fun _ q => nomatch q) ?_
      intro v179 T179 h179 W179 K179 Ch179 Q179
      have H179 := W179.here; have z179 := K179.1
      obtain ⟨a179, rfl, g179, Sv179⟩ := Q179; have l179 := ltN Sv179.lt
      show Goes p e below (PostN s Z h0 [] (Q0 Z cz fm p0 p1 p2 h0) room_1.cells room_1.slots) (T179.setTop (mkF m 176 #[.val (.long p0), .second, .val (.int p1), .val (.int p2), .val (.int (4 : Int32)), .val (.int (2 : Int32)), .val (.int v104), .val (.int v106), .val (.int v108), .val (.int v110), .val (.int v112), .val (.int v114), .val (.ref a115), .val (.ref a120), .val (.ref a177), .val (.ref a178), .unset] [(.ref a179)]))
      refine G.astore H179 hx 178 #[.val (.long p0), .second, .val (.int p1), .val (.int p2), .val (.int (4 : Int32)), .val (.int (2 : Int32)), .val (.int v104), .val (.int v106), .val (.int v108), .val (.int v110), .val (.int v112), .val (.int v114), .val (.ref a115), .val (.ref a120), .val (.ref a177), .val (.ref a178), .val (.ref a179)] (hb hby at_176) rfl rfl rfl ?_
      refine G.aload H179 hx 180 (hb hby at_178) rfl rfl rfl ?_
      refine G.aload H179 hx 182 (hb hby at_180) rfl rfl rfl ?_
      refine Wk.virtual W179 hx hoZ (y := (⟨"java/lang/String", "equals", "(Ljava/lang/Object;)Z"⟩ : MethodName)) (z := (⟨"java/lang/String", "equals", "(Ljava/lang/Object;)Z"⟩ : MethodName)) (wd hw 122 rfl) (wd hw 123 rfl) (wd hw 125 rfl) (wd hw 124 rfl) (W179.nf (wd hw 125 rfl)) (by decide) (Wd := 0) (eqS W179.warm (wsEq hw) (wd hw 13 rfl) W179.old (Sv178.keepX K179 ala0) Sv179 hCS hcz (by decide) (by decide)) (Sv178.exa.keep K179) (by rw [hml]; rfl) [(.ref a179)] [] (lenOf pd17 rfl) rfl rfl (Nat.le_of_eq rfl) 185 (hb hby at_182) rfl (by decide) (by decide) (fun _ q => nomatch q) ?_
      intro v180 T180 h180 W180 K180 Ch180 Q180
      have H180 := W180.here; have z180 := K180.1
      obtain ⟨rfl, eh180⟩ := Q180
      show Goes p e below (PostN s Z h0 [] (Q0 Z cz fm p0 p1 p2 h0) room_1.cells room_1.slots) (T180.setTop (mkF m 185 #[.val (.long p0), .second, .val (.int p1), .val (.int p2), .val (.int (4 : Int32)), .val (.int (2 : Int32)), .val (.int v104), .val (.int v106), .val (.int v108), .val (.int v110), .val (.int v112), .val (.int v114), .val (.ref a115), .val (.ref a120), .val (.ref a177), .val (.ref a178), .val (.ref a179)] [(.int (if ([v104, v106, v108, v110] : List Int32) = ([v104, v106, v108, v110] : List Int32) then (1 : Int32) else (0 : Int32)))]))
      exact Wk.retN W180 hx (if ([v104, v106, v108, v110] : List Int32) = ([v104, v106, v108, v110] : List Int32) then (1 : Int32) else (0 : Int32)) (t := .boolean) (by split <;> rfl) (by simp) hret hlk (hb hby at_185) (by decide) (by decide) (by unfold Q0; simp)
set_option maxRecDepth 65536 in
set_option maxHeartbeats 40000000 in
theorem comes_1 {Post : Tables → Env → Array Value → State → Outcome → State → Prop} (hpost : ∀ tb e args s v u, (limb_1_1.after args s (.returned v) u = true ∧ limb_1_2.after args s (.returned v) u = true ∧ True) → FrameEnd s (.returned v) u (Jvm.fieldLocs frame_1_writes args s ++ Jvm.arrayLocs frame_1_arrays args s ++ Jvm.staticLocs frame_1_statics s) 32 192 → Post tb e args s (.returned v) u) :
    ArmFor flags0 classFile x code maxLocals ret World_1 tables_1 room_1 Calls_1 rest_1 Pre_1 Post := by
  intro l hfl _ _ p e ha hc hk s m args below hf hA hF happ hP
  obtain ⟨hcalls, hrest, hpre⟩ := hP
  obtain ⟨-, -, -, hnamed, -, -, -, hat⟩ := (Spec.applies_iff hf).mp happ
  obtain ⟨hg, hn⟩ := and_e (Cond.before_iff.mp (show (Jvm.Cond.and given_1 narrow_1).before args s = true from hpre))
  obtain ⟨hcount, hg0⟩ := and_e hg
  obtain ⟨ha0, hg1⟩ := and_e hg0
  obtain ⟨ha1, hg2⟩ := and_e hg1
  obtain ⟨w0, w1, w2, rfl⟩ : ∃ w0 w1 w2 : Value, args = #[w0, w1, w2] := by
    have hs : args.size = 3 := by simpa [Cond.value, given_1] using hcount
    obtain ⟨L⟩ := args
    match L, hs with
    | [w0, w1, w2], _ => exact ⟨w0, w1, w2, rfl⟩
  have hw := fun d (hd : d ∈ tables_1) => atoms_spec (ws := Jvm.Cond.code x code maxLocals ret :: tables_1) hat d (List.mem_cons_of_mem _ hd)
  obtain ⟨hsets, hown0⟩ := atoms_of _ (rest_1_c_eq ▸ (show rest_1_c.before _ s = true from hrest))
  have n5 := not_v (Cond.before_iff.mp (hsets _ (List.mem_of_getElem? (i := 2) rfl)))
  obtain ⟨i0, ei0⟩ := isL_v ha0
  obtain rfl : w0 = (.long i0) := Option.some.inj ei0
  obtain ⟨i1, ei1⟩ := is_v ha1
  obtain rfl : w1 = (.int i1) := Option.some.inj ei1
  obtain ⟨i2, ei2⟩ := is_v hg2
  obtain rfl : w2 = (.int i2) := Option.some.inj ei2
  obtain ⟨cz, ecz⟩ := is_v (Cond.before_iff.mp (hsets _ (List.mem_of_getElem? (i := 1) rfl)))
  have hCS : Sta s s.heap "java/lang/String" "COMPACT_STRINGS" "Z" (.int cz) := Sta.start ecz (Or.inl (hsets _ (List.mem_of_getElem? (i := 0) rfl)))
  obtain ⟨fm, efm, hfm⟩ := isR_v (Cond.before_iff.mp (hsets _ (List.mem_of_getElem? (i := 8) rfl)))
  have hFM : Sta s s.heap "jdk/internal/util/Preconditions" "SIOOBE_FORMATTER" "Ljava/util/function/BiFunction;" fm := Sta.start efm (Or.inl (hsets _ (List.mem_of_getElem? (i := 7) rfl)))
  have hcz : ¬ cz = (0 : Int32) := gotF (Cond.eq_ints ecz (Term.int_eval (0))) n5
  obtain ⟨n, o, h1, h2, h3, _, L, rfl, ⟨N, -, rfl⟩, hq⟩ := rm0 l s _ hw cz fm i0 i1 i2 s.heap (ext_refl _) hCS hcz hFM hfm p e ha hc hk s m _ below hf ((Spec.applies_iff_loose hf).mp happ).1 ⟨rfl, State.Warmed39.refl s, rfl⟩ trivial
  refine ⟨n, _, h1, h2, h3, hpost _ _ _ _ _ _ ⟨Cond.after_iff.mpr rfl, Cond.after_iff.mpr (eq_i res_at (Term.int_eval (1)) rfl), trivial⟩ ⟨hq.1, hq.2.1, (hq.2.2.sift fun y hy => Or.inr (N y hy)).mono (by decide) (by decide)⟩⟩
theorem main_1_1 : Claimed_1_1 := comes_1 fun _ _ _ _ _ _ h hF => ⟨h.1, hF⟩
theorem main_1_2 : Claimed_1_2 := comes_1 fun _ _ _ _ _ _ h hF => ⟨h.2.1, hF⟩
end Jvm.Pilot.@@N@@
namespace Jvm.Pilot.@@N@@
open Jvm Jvm.ClassFile Sem Op Lib Jvm.Free Jvm.Stand Jvm.Pilot.@@N@@.Jvm.D
/-! MADE BY PROGRAM (witnessworld.py) out of the Statement's table words and the real class files: 23 classes; the members and pool entries that the words name. The judged class is class 1, her method 4. -/
namespace start1
open Jvm.ClassFile
def u (s : String) : CpInfo := .utf8 (stringToUtf16 s)
/-- a pool by its gaps: so many unusable entries, then the entry; so many at the end -/
def gap : Nat → List CpInfo → List CpInfo
  | 0, r => r
  | n + 1, r => .unusable :: gap n r
def poolList (es : List (Nat × CpInfo)) (last : Nat) : List CpInfo := es.foldr (fun e r => gap e.1 (e.2 :: r)) (gap last [])
def pool (es : List (Nat × CpInfo)) (last : Nat) : Array CpInfo := ⟨poolList es last⟩
def fileOf (pool : Array CpInfo) (this : Nat) (attrs : Array Attribute := #[]) (ms : Array MethodInfo := #[]) (fl : Nat := 33) (sup : Nat := 0) (ifs : Array Nat := #[]) (fds : Array FieldInfo := #[]) : ClassFile where
  minorVersion := 0
  majorVersion := 65
  constantPool := pool
  accessFlags := fl
  thisClass := this
  superClass := sup
  interfaces := ifs
  fields := fds
  methods := ms
  attributes := attrs
def plain (name : String) (sup : Option ClassId) : Class where
  name := name
  kind := .ordinary
  loader := none
  accessFlags := 33
  super := sup
  interfaces := #[]
  cf := none
  fields := #[]
  methods := #[]
  instanceTypes := #[]
  staticTypes := #[]
  resolved := #[]
  callSites := []
  init := .initialized
  statics := none
  mirror := none

def pool0 : Array CpInfo := pool [(5, u "<init>"), (0, u "()V"), (1, .class_ 10), (1, u "java/lang/Object")] 113

def k0c0 : Code := { maxStack := 0, maxLocals := 1, code := object_method_1_code, exceptionTable := #[], attributes := #[] }
def k0m0 : Method := { name := "<init>", desc := "()V", sig := { parameters := [], returnType := none }, accessFlags := 1, code := some k0c0 }
/-- java/lang/Object -/
def k0 : Class := { plain "java/lang/Object" none with
  accessFlags := 33
  interfaces := #[]
  cf := some (fileOf pool0 8 #[] #[{ accessFlags := 1, nameIndex := 5, descriptorIndex := 6, attributes := #[] }] 33 0 #[] #[])
  fields := #[]
  methods := #[k0m0]
  instanceTypes := #[]
  staticTypes := #[]
  resolved := Array.replicate 124 none
  statics := none }

def pool1 : Array CpInfo := pool [(2, .class_ 4), (1, u "java/lang/Object"), (0, u "<init>"), (0, u "()V"), (0, .integer 65535), (0, .methodref 9 10), (0, .class_ 11), (0, .nameAndType 12 13), (0, u "com/example/federation/federation/NamesDomainOfPinLaw"), (0, u "letter"), (0, u "(I)C"), (0, .class_ 15), (0, u "java/lang/String"), (0, .methodref 14 17), (0, .nameAndType 5 18), (0, u "([C)V"), (0, .methodref 9 20), (0, .nameAndType 21 13), (0, u "nameChar"), (0, .methodref 9 23), (0, .nameAndType 24 25), (0, u "text"), (0, u "([CI)Ljava/lang/String;"), (0, .methodref 27 28), (0, .class_ 29), (0, .nameAndType 30 31), (0, u "com/example/federation/federation/Names"), (0, u "domainOf"), (0, u "(Ljava/lang/String;)Ljava/lang/String;"), (0, .methodref 14 33), (0, .nameAndType 34 35), (0, u "equals"), (0, u "(Ljava/lang/Object;)Z"), (3, u "law"), (0, u "(JII)Z")] 2

def k1m0 : Method := { name := "<init>", desc := "()V", sig := { parameters := [], returnType := none }, accessFlags := 2, code := none }
def k1c1 : Code := { maxStack := 3, maxLocals := 2, code := method_2_code, exceptionTable := #[], attributes := #[] }
def k1m1 : Method := { name := "letter", desc := "(I)C", sig := { parameters := [.int], returnType := some .char }, accessFlags := 10, code := some k1c1 }
def k1c2 : Code := { maxStack := 3, maxLocals := 2, code := method_3_code, exceptionTable := #[], attributes := #[] }
def k1m2 : Method := { name := "nameChar", desc := "(I)C", sig := { parameters := [.int], returnType := some .char }, accessFlags := 10, code := some k1c2 }
def k1c3 : Code := { maxStack := 7, maxLocals := 2, code := method_4_code, exceptionTable := #[], attributes := #[] }
def k1m3 : Method := { name := "text", desc := "([CI)Ljava/lang/String;", sig := { parameters := [(.array .char), .int], returnType := some (.object "java/lang/String") }, accessFlags := 10, code := some k1c3 }
def k1c4 : Code := { maxStack := 4, maxLocals := 17, code := code, exceptionTable := #[], attributes := #[] }
def k1m4 : Method := { name := "law", desc := "(JII)Z", sig := { parameters := [.long, .int, .int], returnType := some .boolean }, accessFlags := 9, code := some k1c4 }
/-- com/example/federation/federation/NamesDomainOfPinLaw -/
def k1 : Class := { plain "com/example/federation/federation/NamesDomainOfPinLaw" (some 0) with
  accessFlags := 49
  interfaces := #[]
  cf := some (fileOf pool1 9 #[] #[{ accessFlags := 2, nameIndex := 5, descriptorIndex := 6, attributes := #[] }, { accessFlags := 10, nameIndex := 12, descriptorIndex := 13, attributes := #[] }, { accessFlags := 10, nameIndex := 21, descriptorIndex := 13, attributes := #[] }, { accessFlags := 10, nameIndex := 24, descriptorIndex := 25, attributes := #[] }, { accessFlags := 9, nameIndex := 39, descriptorIndex := 40, attributes := #[] }] 49 2 #[] #[])
  fields := #[]
  methods := #[k1m0, k1m1, k1m2, k1m3, k1m4]
  instanceTypes := #[]
  staticTypes := #[]
  resolved := Array.replicate 43 none
  statics := none }

def pool2 : Array CpInfo := pool [(1, .class_ 2), (0, u "java/io/Serializable"), (0, .class_ 4), (0, u "java/lang/Object")] 2

/-- java/io/Serializable -/
def k2 : Class := { plain "java/io/Serializable" (some 0) with
  accessFlags := 1537
  interfaces := #[]
  cf := some (fileOf pool2 1 #[] #[] 1537 3 #[] #[])
  fields := #[]
  methods := #[]
  instanceTypes := #[]
  staticTypes := #[]
  resolved := Array.replicate 7 none
  statics := none }

def pool3 : Array CpInfo := pool [(1, .class_ 2), (0, u "java/lang/Comparable"), (0, .class_ 4), (0, u "java/lang/Object")] 7

/-- java/lang/Comparable -/
def k3 : Class := { plain "java/lang/Comparable" (some 0) with
  accessFlags := 1537
  interfaces := #[]
  cf := some (fileOf pool3 1 #[] #[] 1537 3 #[] #[])
  fields := #[]
  methods := #[]
  instanceTypes := #[]
  staticTypes := #[]
  resolved := Array.replicate 12 none
  statics := none }

def pool4 : Array CpInfo := pool [(2, .class_ 4), (1, u "java/lang/CharSequence"), (42, .class_ 48), (0, u "java/lang/CharSequence$1CodePointIterator"), (10, .class_ 60), (0, u "java/lang/CharSequence$1CharIterator"), (5, .class_ 67), (0, u "java/lang/Object")] 63

/-- java/lang/CharSequence -/
def k4 : Class := { plain "java/lang/CharSequence" (some 0) with
  accessFlags := 1537
  interfaces := #[]
  cf := some (fileOf pool4 2 #[.nestMembers #[47, 59]] #[] 1537 66 #[] #[])
  fields := #[]
  methods := #[]
  instanceTypes := #[]
  staticTypes := #[]
  resolved := Array.replicate 131 none
  statics := none }

def pool5 : Array CpInfo := pool [(1, .class_ 2), (0, u "java/lang/constant/Constable"), (0, .class_ 4), (0, u "java/lang/Object")] 6

/-- java/lang/constant/Constable -/
def k5 : Class := { plain "java/lang/constant/Constable" (some 0) with
  accessFlags := 1537
  interfaces := #[]
  cf := some (fileOf pool5 1 #[] #[] 1537 3 #[] #[])
  fields := #[]
  methods := #[]
  instanceTypes := #[]
  staticTypes := #[]
  resolved := Array.replicate 11 none
  statics := none }

def pool6 : Array CpInfo := pool [(1, .class_ 2), (0, u "java/lang/constant/ConstantDesc"), (0, .class_ 4), (0, u "java/lang/Object")] 32

/-- java/lang/constant/ConstantDesc -/
def k6 : Class := { plain "java/lang/constant/ConstantDesc" (some 0) with
  accessFlags := 1537
  interfaces := #[]
  cf := some (fileOf pool6 1 #[] #[] 1537 3 #[] #[])
  fields := #[]
  methods := #[]
  instanceTypes := #[]
  staticTypes := #[]
  resolved := Array.replicate 37 none
  statics := none }

def pool7 : Array CpInfo := pool [(1, .methodref 2 3), (0, .class_ 4), (0, .nameAndType 5 6), (0, u "java/lang/Object"), (0, u "<init>"), (0, u "()V"), (2, .fieldref 10 11), (0, .class_ 12), (0, .nameAndType 13 14), (0, u "java/lang/String"), (0, u "value"), (0, u "[B"), (0, .fieldref 10 16), (0, .nameAndType 17 18), (0, u "coder"), (0, u "B"), (2, u "hash"), (0, u "I"), (2, u "hashIsZero"), (0, u "Z"), (0, .methodref 10 28), (0, .nameAndType 5 29), (0, u "([CIILjava/lang/Void;)V"), (8, .fieldref 10 39), (0, .nameAndType 40 26), (0, u "COMPACT_STRINGS"), (1, .class_ 44), (1, u "java/lang/StringUTF16"), (0, u "compress"), (1, .methodref 42 48), (0, .nameAndType 49 50), (0, u "coderFromArrayLen"), (0, u "([BI)B"), (56, .class_ 109), (1, u "java/lang/StringLatin1"), (32, u "()Z"), (34, .methodref 42 178), (0, .nameAndType 45 179), (0, u "([CII)[B"), (31, u "([BB)V"), (122, u "()I"), (0, .methodref 10 336), (0, .nameAndType 17 337), (0, u "()B"), (154, .methodref 10 493), (0, .nameAndType 494 142), (0, u "isLatin1"), (10, .methodref 10 506), (0, .nameAndType 507 334), (0, u "length"), (5, u "checkFromToIndex"), (7, .methodref 10 522), (0, .nameAndType 523 524), (0, u "checkBoundsBeginEnd"), (0, u "(III)V"), (16, .methodref 107 542), (0, .nameAndType 543 544), (0, u "equals"), (0, u "([B[B)Z"), (28, u "(Ljava/lang/Object;)Z"), (1, .class_ 576), (0, u "java/lang/CharSequence"), (22, u "CASE_INSENSITIVE_ORDER"), (0, u "Ljava/util/Comparator;"), (32, .methodref 10 634), (0, .nameAndType 635 636), (0, u "indexOf"), (0, u "(II)I"), (0, .methodref 107 638), (0, .nameAndType 635 639), (0, u "([BIII)I"), (43, u "substring"), (0, u "(II)Ljava/lang/String;"), (0, .methodref 107 686), (0, .nameAndType 687 688), (0, u "newString"), (0, u "([BII)Ljava/lang/String;"), (76, u "(I)I"), (244, u "([C)V"), (42, .fieldref 1054 1055), (0, .class_ 1056), (0, .nameAndType 1057 1058), (0, u "jdk/internal/util/Preconditions"), (0, u "SIOOBE_FORMATTER"), (0, u "Ljava/util/function/BiFunction;"), (3, .methodref 1054 1063), (0, .nameAndType 513 1064), (0, u "(IIILjava/util/function/BiFunction;)I"), (36, u "serialPersistentFields"), (0, u "[Ljava/io/ObjectStreamField;"), (0, .class_ 1104), (0, u "java/lang/String$CaseInsensitiveComparator"), (1, .class_ 1107), (0, u "java/io/Serializable"), (0, .class_ 1109), (0, u "java/lang/Comparable"), (0, .class_ 1111), (0, u "java/lang/constant/Constable"), (0, .class_ 1113), (0, u "java/lang/constant/ConstantDesc"), (2, u "serialVersionUID"), (0, u "J"), (3, u "REPL"), (0, u "C"), (2, u "LATIN1"), (1, u "UTF16")] 323

def k7m0 : Method := { name := "<init>", desc := "()V", sig := { parameters := [], returnType := none }, accessFlags := 1, code := none }
def k7c1 : Code := { maxStack := 5, maxLocals := 2, code := jdk_42_method_3_code, exceptionTable := #[], attributes := #[] }
def k7m1 : Method := { name := "<init>", desc := "([C)V", sig := { parameters := [(.array .char)], returnType := none }, accessFlags := 1, code := some k7c1 }
def k7c2 : Code := { maxStack := 2, maxLocals := 1, code := jdk_42_method_54_code, exceptionTable := #[], attributes := #[] }
def k7m2 : Method := { name := "length", desc := "()I", sig := { parameters := [], returnType := some .int }, accessFlags := 1, code := some k7c2 }
def k7c3 : Code := { maxStack := 2, maxLocals := 3, code := jdk_42_method_66_code, exceptionTable := #[], attributes := #[] }
def k7m3 : Method := { name := "equals", desc := "(Ljava/lang/Object;)Z", sig := { parameters := [(.object "java/lang/Object")], returnType := some .boolean }, accessFlags := 1, code := some k7c3 }
def k7c4 : Code := { maxStack := 3, maxLocals := 2, code := jdk_42_method_79_code, exceptionTable := #[], attributes := #[] }
def k7m4 : Method := { name := "indexOf", desc := "(I)I", sig := { parameters := [.int], returnType := some .int }, accessFlags := 1, code := some k7c4 }
def k7c5 : Code := { maxStack := 4, maxLocals := 3, code := jdk_42_method_80_code, exceptionTable := #[], attributes := #[] }
def k7m5 : Method := { name := "indexOf", desc := "(II)I", sig := { parameters := [.int, .int], returnType := some .int }, accessFlags := 1, code := some k7c5 }
def k7c6 : Code := { maxStack := 3, maxLocals := 5, code := jdk_42_method_92_code, exceptionTable := #[], attributes := #[] }
def k7m6 : Method := { name := "substring", desc := "(II)Ljava/lang/String;", sig := { parameters := [.int, .int], returnType := some (.object "java/lang/String") }, accessFlags := 1, code := some k7c6 }
def k7c7 : Code := { maxStack := 4, maxLocals := 6, code := jdk_42_method_149_code, exceptionTable := #[], attributes := #[] }
def k7m7 : Method := { name := "<init>", desc := "([CIILjava/lang/Void;)V", sig := { parameters := [(.array .char), .int, .int, (.object "java/lang/Void")], returnType := none }, accessFlags := 2, code := some k7c7 }
def k7c8 : Code := { maxStack := 2, maxLocals := 3, code := jdk_42_method_151_code, exceptionTable := #[], attributes := #[] }
def k7m8 : Method := { name := "<init>", desc := "([BB)V", sig := { parameters := [(.array .byte), .byte], returnType := none }, accessFlags := 0, code := some k7c8 }
def k7c9 : Code := { maxStack := 1, maxLocals := 1, code := jdk_42_method_152_code, exceptionTable := #[], attributes := #[] }
def k7m9 : Method := { name := "coder", desc := "()B", sig := { parameters := [], returnType := some .byte }, accessFlags := 0, code := some k7c9 }
def k7c10 : Code := { maxStack := 1, maxLocals := 1, code := jdk_42_method_154_code, exceptionTable := #[], attributes := #[] }
def k7m10 : Method := { name := "isLatin1", desc := "()Z", sig := { parameters := [], returnType := some .boolean }, accessFlags := 0, code := some k7c10 }
def k7c11 : Code := { maxStack := 4, maxLocals := 3, code := jdk_42_method_158_code, exceptionTable := #[], attributes := #[] }
def k7m11 : Method := { name := "checkBoundsBeginEnd", desc := "(III)V", sig := { parameters := [.int, .int, .int], returnType := none }, accessFlags := 8, code := some k7c11 }
/-- java/lang/String -/
def k7 : Class := { plain "java/lang/String" (some 0) with
  accessFlags := 49
  interfaces := #[2, 3, 4, 5, 6]
  cf := some (fileOf pool7 10 #[.nestMembers #[1103]] #[{ accessFlags := 1, nameIndex := 5, descriptorIndex := 6, attributes := #[] }, { accessFlags := 1, nameIndex := 5, descriptorIndex := 1010, attributes := #[] }, { accessFlags := 1, nameIndex := 507, descriptorIndex := 334, attributes := #[] }, { accessFlags := 1, nameIndex := 543, descriptorIndex := 573, attributes := #[] }, { accessFlags := 1, nameIndex := 635, descriptorIndex := 765, attributes := #[] }, { accessFlags := 1, nameIndex := 635, descriptorIndex := 636, attributes := #[] }, { accessFlags := 1, nameIndex := 683, descriptorIndex := 684, attributes := #[] }, { accessFlags := 2, nameIndex := 5, descriptorIndex := 29, attributes := #[] }, { accessFlags := 0, nameIndex := 5, descriptorIndex := 211, attributes := #[] }, { accessFlags := 0, nameIndex := 17, descriptorIndex := 337, attributes := #[] }, { accessFlags := 0, nameIndex := 494, descriptorIndex := 142, attributes := #[] }, { accessFlags := 8, nameIndex := 523, descriptorIndex := 524, attributes := #[] }] 49 2 #[1106, 1108, 575, 1110, 1112] #[{ accessFlags := 18, nameIndex := 13, descriptorIndex := 14, attributes := #[] }, { accessFlags := 18, nameIndex := 17, descriptorIndex := 18, attributes := #[] }, { accessFlags := 2, nameIndex := 21, descriptorIndex := 22, attributes := #[] }, { accessFlags := 2, nameIndex := 25, descriptorIndex := 26, attributes := #[] }, { accessFlags := 26, nameIndex := 1116, descriptorIndex := 1117, attributes := #[] }, { accessFlags := 24, nameIndex := 40, descriptorIndex := 26, attributes := #[] }, { accessFlags := 26, nameIndex := 1101, descriptorIndex := 1102, attributes := #[] }, { accessFlags := 26, nameIndex := 1121, descriptorIndex := 1122, attributes := #[] }, { accessFlags := 25, nameIndex := 599, descriptorIndex := 600, attributes := #[] }, { accessFlags := 24, nameIndex := 1125, descriptorIndex := 18, attributes := #[] }, { accessFlags := 24, nameIndex := 1127, descriptorIndex := 18, attributes := #[] }])
  fields := #[{ name := "value", type := (.array .byte), accessFlags := 18, slot := 0, constantValue := 0 }, { name := "coder", type := .byte, accessFlags := 18, slot := 1, constantValue := 0 }, { name := "hash", type := .int, accessFlags := 2, slot := 2, constantValue := 0 }, { name := "hashIsZero", type := .boolean, accessFlags := 2, slot := 3, constantValue := 0 }, { name := "serialVersionUID", type := .long, accessFlags := 26, slot := 0, constantValue := 0 }, { name := "COMPACT_STRINGS", type := .boolean, accessFlags := 24, slot := 1, constantValue := 0 }, { name := "serialPersistentFields", type := (.array (.object "java/io/ObjectStreamField")), accessFlags := 26, slot := 2, constantValue := 0 }, { name := "REPL", type := .char, accessFlags := 26, slot := 3, constantValue := 0 }, { name := "CASE_INSENSITIVE_ORDER", type := (.object "java/util/Comparator"), accessFlags := 25, slot := 4, constantValue := 0 }, { name := "LATIN1", type := .byte, accessFlags := 24, slot := 5, constantValue := 0 }, { name := "UTF16", type := .byte, accessFlags := 24, slot := 6, constantValue := 0 }]
  methods := #[k7m0, k7m1, k7m2, k7m3, k7m4, k7m5, k7m6, k7m7, k7m8, k7m9, k7m10, k7m11]
  instanceTypes := #[(.array .byte), .byte, .int, .boolean]
  staticTypes := #[.long, .boolean, (.array (.object "java/io/ObjectStreamField")), .char, (.object "java/util/Comparator"), .byte, .byte]
  resolved := Array.replicate 1451 none
  statics := some 0 }

def pool8 : Array CpInfo := pool [(6, .class_ 8), (1, u "java/lang/Object"), (0, u "<init>"), (0, u "()V"), (1, .class_ 14), (1, u "java/lang/StringUTF16"), (31, u "$assertionsDisabled"), (0, u "Z"), (13, u "HI_BYTE_SHIFT"), (0, u "I"), (2, u "LO_BYTE_SHIFT"), (49, .methodref 12 116), (0, .nameAndType 117 118), (0, u "compress"), (0, u "([CI[BII)I"), (3, u "([CII)[B"), (138, u "coderFromArrayLen"), (0, u "([BI)B"), (106, .class_ 371), (1, u "java/lang/StringUTF16$LinesSpliterator"), (58, u "MAX_LENGTH"), (196, .class_ 628), (0, u "java/lang/StringUTF16$CodePointsSpliterator"), (0, .class_ 630), (0, u "java/lang/StringUTF16$CharsSpliterator")] 4

def k8m0 : Method := { name := "<init>", desc := "()V", sig := { parameters := [], returnType := none }, accessFlags := 0, code := none }
def k8c1 : Code := { maxStack := 2, maxLocals := 2, code := jdk_52_method_15_code, exceptionTable := #[], attributes := #[] }
def k8m1 : Method := { name := "coderFromArrayLen", desc := "([BI)B", sig := { parameters := [(.array .byte), .int], returnType := some .byte }, accessFlags := 8, code := some k8c1 }
def k8c2 : Code := { maxStack := 5, maxLocals := 6, code := jdk_52_method_16_code, exceptionTable := #[], attributes := #[] }
def k8m2 : Method := { name := "compress", desc := "([CII)[B", sig := { parameters := [(.array .char), .int, .int], returnType := some (.array .byte) }, accessFlags := 9, code := some k8c2 }
def k8c3 : Code := { maxStack := 3, maxLocals := 7, code := jdk_52_method_21_code, exceptionTable := #[], attributes := #[] }
def k8m3 : Method := { name := "compress", desc := "([CI[BII)I", sig := { parameters := [(.array .char), .int, (.array .byte), .int, .int], returnType := some .int }, accessFlags := 9, code := some k8c3 }
/-- java/lang/StringUTF16 -/
def k8 : Class := { plain "java/lang/StringUTF16" (some 0) with
  accessFlags := 48
  interfaces := #[]
  cf := some (fileOf pool8 12 #[.nestMembers #[627, 629, 369]] #[{ accessFlags := 0, nameIndex := 9, descriptorIndex := 10, attributes := #[] }, { accessFlags := 8, nameIndex := 261, descriptorIndex := 262, attributes := #[] }, { accessFlags := 9, nameIndex := 117, descriptorIndex := 122, attributes := #[] }, { accessFlags := 9, nameIndex := 117, descriptorIndex := 118, attributes := #[] }] 48 6 #[] #[{ accessFlags := 26, nameIndex := 61, descriptorIndex := 62, attributes := #[] }, { accessFlags := 26, nameIndex := 65, descriptorIndex := 62, attributes := #[] }, { accessFlags := 24, nameIndex := 430, descriptorIndex := 62, attributes := #[] }, { accessFlags := 4120, nameIndex := 46, descriptorIndex := 47, attributes := #[] }])
  fields := #[{ name := "HI_BYTE_SHIFT", type := .int, accessFlags := 26, slot := 0, constantValue := 0 }, { name := "LO_BYTE_SHIFT", type := .int, accessFlags := 26, slot := 1, constantValue := 0 }, { name := "MAX_LENGTH", type := .int, accessFlags := 24, slot := 2, constantValue := 0 }, { name := "$assertionsDisabled", type := .boolean, accessFlags := 4120, slot := 3, constantValue := 0 }]
  methods := #[k8m0, k8m1, k8m2, k8m3]
  instanceTypes := #[]
  staticTypes := #[.int, .int, .int, .boolean]
  resolved := Array.replicate 635 none
  statics := none }

def pool9 : Array CpInfo := pool [(2, .class_ 4), (1, u "java/lang/Object"), (0, u "<init>"), (0, u "()V"), (1, .class_ 10), (1, u "java/lang/String"), (3, .class_ 16), (1, u "com/example/federation/federation/Names"), (6, .methodref 8 24), (0, .nameAndType 25 26), (0, u "indexOf"), (0, u "(I)I"), (0, .methodref 8 28), (0, .nameAndType 29 30), (0, u "substring"), (0, u "(II)Ljava/lang/String;"), (31, u "domainOf"), (0, u "(Ljava/lang/String;)Ljava/lang/String;")] 18

def k9m0 : Method := { name := "<init>", desc := "()V", sig := { parameters := [], returnType := none }, accessFlags := 2, code := none }
def k9c1 : Code := { maxStack := 4, maxLocals := 1, code := prog_26_method_5_code, exceptionTable := #[], attributes := #[] }
def k9m1 : Method := { name := "domainOf", desc := "(Ljava/lang/String;)Ljava/lang/String;", sig := { parameters := [(.object "java/lang/String")], returnType := some (.object "java/lang/String") }, accessFlags := 8, code := some k9c1 }
/-- com/example/federation/federation/Names -/
def k9 : Class := { plain "com/example/federation/federation/Names" (some 0) with
  accessFlags := 48
  interfaces := #[]
  cf := some (fileOf pool9 14 #[] #[{ accessFlags := 2, nameIndex := 5, descriptorIndex := 6, attributes := #[] }, { accessFlags := 8, nameIndex := 62, descriptorIndex := 63, attributes := #[] }] 48 2 #[] #[])
  fields := #[]
  methods := #[k9m0, k9m1]
  instanceTypes := #[]
  staticTypes := #[]
  resolved := Array.replicate 82 none
  statics := none }

def pool10 : Array CpInfo := pool [(1, .class_ 2), (0, u "java/lang/String"), (1, .class_ 6), (1, u "java/lang/Object"), (0, u "<init>"), (0, u "()V"), (5, .class_ 16), (1, u "java/lang/StringLatin1"), (21, .methodref 39 40), (0, .class_ 41), (0, .nameAndType 42 43), (0, u "java/lang/Math"), (0, u "min"), (0, u "(II)I"), (44, .methodref 14 89), (0, .nameAndType 90 91), (0, u "canEncode"), (0, u "(I)Z"), (0, .methodref 39 93), (0, .nameAndType 94 43), (0, u "max"), (0, .methodref 14 96), (0, .nameAndType 97 98), (0, u "indexOfChar"), (0, u "([BIII)I"), (2, u "indexOf"), (10, .methodref 1 113), (0, .nameAndType 7 114), (0, u "([BB)V"), (6, u "$assertionsDisabled"), (0, u "Z"), (8, .class_ 133), (1, u "java/util/Arrays"), (62, u "newString"), (0, u "([BII)Ljava/lang/String;"), (23, .class_ 223), (1, u "java/lang/StringLatin1$LinesSpliterator"), (8, .methodref 131 233), (0, .nameAndType 234 235), (0, u "copyOfRange"), (0, u "([BII)[B"), (45, u "equals"), (0, u "([B[B)Z"), (107, .class_ 391), (0, u "java/lang/StringLatin1$CharsSpliterator")] 3

def k10m0 : Method := { name := "<init>", desc := "()V", sig := { parameters := [], returnType := none }, accessFlags := 0, code := none }
def k10c1 : Code := { maxStack := 2, maxLocals := 1, code := jdk_43_method_4_code, exceptionTable := #[], attributes := #[] }
def k10m1 : Method := { name := "canEncode", desc := "(I)Z", sig := { parameters := [.int], returnType := some .boolean }, accessFlags := 9, code := some k10c1 }
def k10c2 : Code := { maxStack := 3, maxLocals := 3, code := jdk_43_method_13_code, exceptionTable := #[], attributes := #[] }
def k10m2 : Method := { name := "equals", desc := "([B[B)Z", sig := { parameters := [(.array .byte), (.array .byte)], returnType := some .boolean }, accessFlags := 9, code := some k10c2 }
def k10c3 : Code := { maxStack := 4, maxLocals := 4, code := jdk_43_method_22_code, exceptionTable := #[], attributes := #[] }
def k10m3 : Method := { name := "indexOf", desc := "([BIII)I", sig := { parameters := [(.array .byte), .int, .int, .int], returnType := some .int }, accessFlags := 9, code := some k10c3 }
def k10c4 : Code := { maxStack := 2, maxLocals := 6, code := jdk_43_method_23_code, exceptionTable := #[], attributes := #[] }
def k10m4 : Method := { name := "indexOfChar", desc := "([BIII)I", sig := { parameters := [(.array .byte), .int, .int, .int], returnType := some .int }, accessFlags := 10, code := some k10c4 }
def k10c5 : Code := { maxStack := 6, maxLocals := 3, code := jdk_43_method_47_code, exceptionTable := #[], attributes := #[] }
def k10m5 : Method := { name := "newString", desc := "([BII)Ljava/lang/String;", sig := { parameters := [(.array .byte), .int, .int], returnType := some (.object "java/lang/String") }, accessFlags := 9, code := some k10c5 }
/-- java/lang/StringLatin1 -/
def k10 : Class := { plain "java/lang/StringLatin1" (some 0) with
  accessFlags := 48
  interfaces := #[]
  cf := some (fileOf pool10 14 #[.nestMembers #[390, 221]] #[{ accessFlags := 0, nameIndex := 7, descriptorIndex := 8, attributes := #[] }, { accessFlags := 9, nameIndex := 90, descriptorIndex := 91, attributes := #[] }, { accessFlags := 9, nameIndex := 281, descriptorIndex := 282, attributes := #[] }, { accessFlags := 9, nameIndex := 101, descriptorIndex := 98, attributes := #[] }, { accessFlags := 10, nameIndex := 97, descriptorIndex := 98, attributes := #[] }, { accessFlags := 9, nameIndex := 196, descriptorIndex := 197, attributes := #[] }] 48 4 #[] #[{ accessFlags := 4120, nameIndex := 121, descriptorIndex := 122, attributes := #[] }])
  fields := #[{ name := "$assertionsDisabled", type := .boolean, accessFlags := 4120, slot := 0, constantValue := 0 }]
  methods := #[k10m0, k10m1, k10m2, k10m3, k10m4, k10m5]
  instanceTypes := #[]
  staticTypes := #[.boolean]
  resolved := Array.replicate 395 none
  statics := none }

def pool11 : Array CpInfo := pool [(1, .class_ 2), (0, u "java/lang/Math"), (1, .class_ 6), (1, u "java/lang/Object"), (0, u "<init>"), (0, u "()V"), (89, .class_ 100), (1, u "java/lang/Math$RandomNumberGeneratorHolder"), (71, u "negativeZeroFloatBits"), (0, u "J"), (2, u "negativeZeroDoubleBits"), (21, u "max"), (2, u "min"), (43, u "$assertionsDisabled"), (0, u "Z"), (88, u "(II)I"), (2, u "twoToTheDoubleScaleDown"), (0, u "D"), (4, u "twoToTheDoubleScaleUp"), (9, u "E"), (3, u "PI"), (2, u "TAU"), (2, u "DEGREES_TO_RADIANS"), (0, u "RADIANS_TO_DEGREES")] 94

def k11m0 : Method := { name := "<init>", desc := "()V", sig := { parameters := [], returnType := none }, accessFlags := 2, code := none }
def k11c1 : Code := { maxStack := 2, maxLocals := 2, code := jdk_29_method_65_code, exceptionTable := #[], attributes := #[] }
def k11m1 : Method := { name := "max", desc := "(II)I", sig := { parameters := [.int, .int], returnType := some .int }, accessFlags := 9, code := some k11c1 }
def k11c2 : Code := { maxStack := 2, maxLocals := 2, code := jdk_29_method_69_code, exceptionTable := #[], attributes := #[] }
def k11m2 : Method := { name := "min", desc := "(II)I", sig := { parameters := [.int, .int], returnType := some .int }, accessFlags := 9, code := some k11c2 }
/-- java/lang/Math -/
def k11 : Class := { plain "java/lang/Math" (some 0) with
  accessFlags := 49
  interfaces := #[]
  cf := some (fileOf pool11 1 #[.nestMembers #[98]] #[{ accessFlags := 2, nameIndex := 7, descriptorIndex := 8, attributes := #[] }, { accessFlags := 9, nameIndex := 198, descriptorIndex := 335, attributes := #[] }, { accessFlags := 9, nameIndex := 201, descriptorIndex := 335, attributes := #[] }] 49 4 #[] #[{ accessFlags := 25, nameIndex := 354, descriptorIndex := 339, attributes := #[] }, { accessFlags := 25, nameIndex := 358, descriptorIndex := 339, attributes := #[] }, { accessFlags := 25, nameIndex := 361, descriptorIndex := 339, attributes := #[] }, { accessFlags := 26, nameIndex := 364, descriptorIndex := 339, attributes := #[] }, { accessFlags := 26, nameIndex := 365, descriptorIndex := 339, attributes := #[] }, { accessFlags := 26, nameIndex := 172, descriptorIndex := 173, attributes := #[] }, { accessFlags := 26, nameIndex := 176, descriptorIndex := 173, attributes := #[] }, { accessFlags := 8, nameIndex := 344, descriptorIndex := 339, attributes := #[] }, { accessFlags := 8, nameIndex := 338, descriptorIndex := 339, attributes := #[] }, { accessFlags := 4120, nameIndex := 245, descriptorIndex := 246, attributes := #[] }])
  fields := #[{ name := "E", type := .double, accessFlags := 25, slot := 0, constantValue := 0 }, { name := "PI", type := .double, accessFlags := 25, slot := 1, constantValue := 0 }, { name := "TAU", type := .double, accessFlags := 25, slot := 2, constantValue := 0 }, { name := "DEGREES_TO_RADIANS", type := .double, accessFlags := 26, slot := 3, constantValue := 0 }, { name := "RADIANS_TO_DEGREES", type := .double, accessFlags := 26, slot := 4, constantValue := 0 }, { name := "negativeZeroFloatBits", type := .long, accessFlags := 26, slot := 5, constantValue := 0 }, { name := "negativeZeroDoubleBits", type := .long, accessFlags := 26, slot := 6, constantValue := 0 }, { name := "twoToTheDoubleScaleUp", type := .double, accessFlags := 8, slot := 7, constantValue := 0 }, { name := "twoToTheDoubleScaleDown", type := .double, accessFlags := 8, slot := 8, constantValue := 0 }, { name := "$assertionsDisabled", type := .boolean, accessFlags := 4120, slot := 9, constantValue := 0 }]
  methods := #[k11m0, k11m1, k11m2]
  instanceTypes := #[]
  staticTypes := #[.double, .double, .double, .double, .double, .long, .long, .double, .double, .boolean]
  resolved := Array.replicate 460 none
  statics := none }

def pool12 : Array CpInfo := pool [(2, .class_ 4), (1, u "java/lang/Object"), (0, u "<init>"), (0, u "()V"), (17, .class_ 26), (1, u "jdk/internal/util/Preconditions"), (20, u "checkFromToIndex"), (7, .class_ 56), (0, u "jdk/internal/util/Preconditions$4"), (57, .class_ 115), (0, u "jdk/internal/util/Preconditions$1"), (7, u "SIOOBE_FORMATTER"), (0, u "Ljava/util/function/BiFunction;"), (0, .class_ 126), (0, u "jdk/internal/util/Preconditions$2"), (3, u "AIOOBE_FORMATTER"), (0, .class_ 132), (0, u "jdk/internal/util/Preconditions$3"), (3, u "IOOBE_FORMATTER"), (46, u "(IIILjava/util/function/BiFunction;)I")] 10

def k12m0 : Method := { name := "<init>", desc := "()V", sig := { parameters := [], returnType := none }, accessFlags := 1, code := none }
def k12c1 : Code := { maxStack := 4, maxLocals := 4, code := jdk_41_method_12_code, exceptionTable := #[], attributes := #[] }
def k12m1 : Method := { name := "checkFromToIndex", desc := "(IIILjava/util/function/BiFunction;)I", sig := { parameters := [.int, .int, .int, (.object "java/util/function/BiFunction")], returnType := some .int }, accessFlags := 9, code := some k12c1 }
/-- jdk/internal/util/Preconditions -/
def k12 : Class := { plain "jdk/internal/util/Preconditions" (some 0) with
  accessFlags := 33
  interfaces := #[]
  cf := some (fileOf pool12 24 #[.nestMembers #[55, 131, 125, 114]] #[{ accessFlags := 1, nameIndex := 5, descriptorIndex := 6, attributes := #[] }, { accessFlags := 9, nameIndex := 47, descriptorIndex := 183, attributes := #[] }] 33 2 #[] #[{ accessFlags := 25, nameIndex := 123, descriptorIndex := 124, attributes := #[] }, { accessFlags := 25, nameIndex := 130, descriptorIndex := 124, attributes := #[] }, { accessFlags := 25, nameIndex := 136, descriptorIndex := 124, attributes := #[] }])
  fields := #[{ name := "SIOOBE_FORMATTER", type := (.object "java/util/function/BiFunction"), accessFlags := 25, slot := 0, constantValue := 0 }, { name := "AIOOBE_FORMATTER", type := (.object "java/util/function/BiFunction"), accessFlags := 25, slot := 1, constantValue := 0 }, { name := "IOOBE_FORMATTER", type := (.object "java/util/function/BiFunction"), accessFlags := 25, slot := 2, constantValue := 0 }]
  methods := #[k12m0, k12m1]
  instanceTypes := #[]
  staticTypes := #[(.object "java/util/function/BiFunction"), (.object "java/util/function/BiFunction"), (.object "java/util/function/BiFunction")]
  resolved := Array.replicate 194 none
  statics := some 1 }

def pool13 : Array CpInfo := pool [(2, .class_ 4), (1, u "java/lang/Object"), (0, u "<init>"), (0, u "()V"), (7, .class_ 16), (1, u "java/util/Arrays"), (57, .class_ 76), (1, u "java/util/Arrays$NaturalOrder"), (36, .class_ 115), (1, u "java/util/Arrays$LegacyMergeSort"), (1, u "Z"), (21, u "copyOfRange"), (10, .methodref 151 152), (0, .class_ 153), (0, .nameAndType 154 155), (0, u "java/lang/System"), (0, u "arraycopy"), (0, u "(Ljava/lang/Object;ILjava/lang/Object;II)V"), (148, .methodref 305 306), (0, .class_ 307), (0, .nameAndType 308 309), (0, u "java/lang/Math"), (0, u "min"), (0, u "(II)I"), (29, .methodref 14 340), (0, .nameAndType 341 342), (0, u "copyOfRangeByte"), (0, u "([BII)[B"), (0, .methodref 14 344), (0, .nameAndType 345 346), (0, u "checkLength"), (0, u "(II)V"), (28, .class_ 376), (0, u "java/util/Arrays$ArrayList"), (68, u "$assertionsDisabled"), (269, u "MIN_ARRAY_SORT_GRAN"), (0, u "I"), (2, u "INSERTIONSORT_THRESHOLD"), (255, .class_ 976), (0, u "java/util/Arrays$ArrayItr")] 52

def k13m0 : Method := { name := "<init>", desc := "()V", sig := { parameters := [], returnType := none }, accessFlags := 2, code := none }
def k13c1 : Code := { maxStack := 4, maxLocals := 2, code := jdk_65_method_131_code, exceptionTable := #[], attributes := #[] }
def k13m1 : Method := { name := "checkLength", desc := "(II)V", sig := { parameters := [.int, .int], returnType := none }, accessFlags := 10, code := some k13c1 }
def k13c2 : Code := { maxStack := 3, maxLocals := 3, code := jdk_65_method_132_code, exceptionTable := #[], attributes := #[] }
def k13m2 : Method := { name := "copyOfRange", desc := "([BII)[B", sig := { parameters := [(.array .byte), .int, .int], returnType := some (.array .byte) }, accessFlags := 9, code := some k13c2 }
def k13c3 : Code := { maxStack := 6, maxLocals := 5, code := jdk_65_method_133_code, exceptionTable := #[], attributes := #[] }
def k13m3 : Method := { name := "copyOfRangeByte", desc := "([BII)[B", sig := { parameters := [(.array .byte), .int, .int], returnType := some (.array .byte) }, accessFlags := 10, code := some k13c3 }
/-- java/util/Arrays -/
def k13 : Class := { plain "java/util/Arrays" (some 0) with
  accessFlags := 49
  interfaces := #[]
  cf := some (fileOf pool13 14 #[.nestMembers #[975, 375, 113, 74]] #[{ accessFlags := 2, nameIndex := 5, descriptorIndex := 6, attributes := #[] }, { accessFlags := 10, nameIndex := 345, descriptorIndex := 346, attributes := #[] }, { accessFlags := 9, nameIndex := 139, descriptorIndex := 342, attributes := #[] }, { accessFlags := 10, nameIndex := 341, descriptorIndex := 342, attributes := #[] }] 49 2 #[] #[{ accessFlags := 26, nameIndex := 715, descriptorIndex := 716, attributes := #[] }, { accessFlags := 26, nameIndex := 719, descriptorIndex := 716, attributes := #[] }, { accessFlags := 4120, nameIndex := 445, descriptorIndex := 117, attributes := #[] }])
  fields := #[{ name := "MIN_ARRAY_SORT_GRAN", type := .int, accessFlags := 26, slot := 0, constantValue := 0 }, { name := "INSERTIONSORT_THRESHOLD", type := .int, accessFlags := 26, slot := 1, constantValue := 0 }, { name := "$assertionsDisabled", type := .boolean, accessFlags := 4120, slot := 2, constantValue := 0 }]
  methods := #[k13m0, k13m1, k13m2, k13m3]
  instanceTypes := #[]
  staticTypes := #[.int, .int, .boolean]
  resolved := Array.replicate 1029 none
  statics := none }

def pool14 : Array CpInfo := pool [(2, .class_ 4), (1, u "java/lang/Object"), (0, u "<init>"), (0, u "()V"), (1, .class_ 10), (1, u "java/lang/System"), (0, u "allowSecurityManager"), (0, u "I"), (16, u "cons"), (0, u "Ljava/io/Console;"), (77, .class_ 110), (1, u "java/lang/System$CallersHolder"), (43, u "initialErrStream"), (0, u "Ljava/io/PrintStream;"), (19, u "security"), (0, u "Ljava/lang/SecurityManager;"), (31, .class_ 209), (0, u "java/lang/System$1"), (7, u "props"), (0, u "Ljava/util/Properties;"), (2, u "lineSeparator"), (0, u "Ljava/lang/String;"), (96, .class_ 321), (1, u "java/lang/System$LoggerFinder"), (5, .class_ 328), (0, u "java/lang/System$Logger"), (67, u "err"), (2, u "out"), (91, u "notSupportedJnuEncoding"), (15, u "in"), (17, u "initialIn"), (0, u "Ljava/io/InputStream;"), (35, u "bootLayer"), (0, u "Ljava/lang/ModuleLayer;"), (99, .class_ 664), (0, u "java/lang/System$2"), (9, u "NEVER"), (2, u "MAYBE"), (49, u "arraycopy"), (0, u "(Ljava/lang/Object;ILjava/lang/Object;II)V"), (72, .class_ 802), (0, u "java/lang/System$Logger$Level")] 31

def k14m0 : Method := { name := "<init>", desc := "()V", sig := { parameters := [], returnType := none }, accessFlags := 2, code := none }
def k14m1 : Method := { name := "arraycopy", desc := "(Ljava/lang/Object;ILjava/lang/Object;II)V", sig := { parameters := [(.object "java/lang/Object"), .int, (.object "java/lang/Object"), .int, .int], returnType := none }, accessFlags := 265, code := none }
/-- java/lang/System -/
def k14 : Class := { plain "java/lang/System" (some 0) with
  accessFlags := 49
  interfaces := #[]
  cf := some (fileOf pool14 8 #[.nestMembers #[319, 327, 801, 108, 663, 208]] #[{ accessFlags := 2, nameIndex := 5, descriptorIndex := 6, attributes := #[] }, { accessFlags := 265, nameIndex := 727, descriptorIndex := 728, attributes := #[] }] 49 2 #[] #[{ accessFlags := 25, nameIndex := 507, descriptorIndex := 526, attributes := #[] }, { accessFlags := 25, nameIndex := 399, descriptorIndex := 155, attributes := #[] }, { accessFlags := 25, nameIndex := 396, descriptorIndex := 155, attributes := #[] }, { accessFlags := 10, nameIndex := 525, descriptorIndex := 526, attributes := #[] }, { accessFlags := 26, nameIndex := 674, descriptorIndex := 12, attributes := #[] }, { accessFlags := 26, nameIndex := 677, descriptorIndex := 12, attributes := #[] }, { accessFlags := 10, nameIndex := 11, descriptorIndex := 12, attributes := #[] }, { accessFlags := 74, nameIndex := 175, descriptorIndex := 176, attributes := #[] }, { accessFlags := 10, nameIndex := 491, descriptorIndex := 222, attributes := #[] }, { accessFlags := 74, nameIndex := 29, descriptorIndex := 30, attributes := #[] }, { accessFlags := 74, nameIndex := 154, descriptorIndex := 155, attributes := #[] }, { accessFlags := 10, nameIndex := 217, descriptorIndex := 218, attributes := #[] }, { accessFlags := 10, nameIndex := 221, descriptorIndex := 222, attributes := #[] }, { accessFlags := 8, nameIndex := 562, descriptorIndex := 563, attributes := #[] }])
  fields := #[{ name := "in", type := (.object "java/io/InputStream"), accessFlags := 25, slot := 0, constantValue := 0 }, { name := "out", type := (.object "java/io/PrintStream"), accessFlags := 25, slot := 1, constantValue := 0 }, { name := "err", type := (.object "java/io/PrintStream"), accessFlags := 25, slot := 2, constantValue := 0 }, { name := "initialIn", type := (.object "java/io/InputStream"), accessFlags := 10, slot := 3, constantValue := 0 }, { name := "NEVER", type := .int, accessFlags := 26, slot := 4, constantValue := 0 }, { name := "MAYBE", type := .int, accessFlags := 26, slot := 5, constantValue := 0 }, { name := "allowSecurityManager", type := .int, accessFlags := 10, slot := 6, constantValue := 0 }, { name := "security", type := (.object "java/lang/SecurityManager"), accessFlags := 74, slot := 7, constantValue := 0 }, { name := "notSupportedJnuEncoding", type := (.object "java/lang/String"), accessFlags := 10, slot := 8, constantValue := 0 }, { name := "cons", type := (.object "java/io/Console"), accessFlags := 74, slot := 9, constantValue := 0 }, { name := "initialErrStream", type := (.object "java/io/PrintStream"), accessFlags := 74, slot := 10, constantValue := 0 }, { name := "props", type := (.object "java/util/Properties"), accessFlags := 10, slot := 11, constantValue := 0 }, { name := "lineSeparator", type := (.object "java/lang/String"), accessFlags := 10, slot := 12, constantValue := 0 }, { name := "bootLayer", type := (.object "java/lang/ModuleLayer"), accessFlags := 8, slot := 13, constantValue := 0 }]
  methods := #[k14m0, k14m1]
  instanceTypes := #[]
  staticTypes := #[(.object "java/io/InputStream"), (.object "java/io/PrintStream"), (.object "java/io/PrintStream"), (.object "java/io/InputStream"), .int, .int, .int, (.object "java/lang/SecurityManager"), (.object "java/lang/String"), (.object "java/io/Console"), (.object "java/io/PrintStream"), (.object "java/util/Properties"), (.object "java/lang/String"), (.object "java/lang/ModuleLayer")]
  resolved := Array.replicate 834 none
  statics := none }

def pool15 : Array CpInfo := pool [(9, u "<init>"), (6, .class_ 18), (1, u "java/lang/Object"), (0, u "()V"), (1, .class_ 23), (1, u "jdk/internal/util/ArraysSupport"), (0, u "LOG2_ARRAY_LONG_INDEX_SCALE"), (0, u "I"), (2, u "U"), (0, u "Ljdk/internal/misc/Unsafe;"), (8, u "BIG_ENDIAN"), (0, u "Z"), (8, u "LOG2_BYTE_BIT_SIZE"), (4, u "LOG2_ARRAY_INT_INDEX_SCALE"), (54, u "JLA"), (0, u "Ljdk/internal/access/JavaLangAccess;"), (11, u "LOG2_ARRAY_BOOLEAN_INDEX_SCALE"), (9, u "LOG2_ARRAY_BYTE_INDEX_SCALE"), (5, u "LOG2_ARRAY_CHAR_INDEX_SCALE"), (5, u "LOG2_ARRAY_SHORT_INDEX_SCALE"), (18, u "LOG2_ARRAY_FLOAT_INDEX_SCALE"), (24, u "LOG2_ARRAY_DOUBLE_INDEX_SCALE"), (89, u "T_BOOLEAN"), (2, u "T_CHAR"), (1, u "T_FLOAT"), (1, u "T_DOUBLE"), (1, u "T_BYTE"), (1, u "T_SHORT"), (1, u "T_INT"), (1, u "T_LONG"), (1, u "SOFT_MAX_ARRAY_LENGTH")] 83

def k15m0 : Method := { name := "<init>", desc := "()V", sig := { parameters := [], returnType := none }, accessFlags := 2, code := none }
/-- jdk/internal/util/ArraysSupport -/
def k15 : Class := { plain "jdk/internal/util/ArraysSupport" (some 0) with
  accessFlags := 33
  interfaces := #[]
  cf := some (fileOf pool15 21 #[] #[{ accessFlags := 2, nameIndex := 9, descriptorIndex := 19, attributes := #[] }] 33 16 #[] #[{ accessFlags := 24, nameIndex := 28, descriptorIndex := 29, attributes := #[] }, { accessFlags := 26, nameIndex := 38, descriptorIndex := 39, attributes := #[] }, { accessFlags := 25, nameIndex := 121, descriptorIndex := 25, attributes := #[] }, { accessFlags := 25, nameIndex := 131, descriptorIndex := 25, attributes := #[] }, { accessFlags := 25, nameIndex := 137, descriptorIndex := 25, attributes := #[] }, { accessFlags := 25, nameIndex := 143, descriptorIndex := 25, attributes := #[] }, { accessFlags := 25, nameIndex := 53, descriptorIndex := 25, attributes := #[] }, { accessFlags := 25, nameIndex := 24, descriptorIndex := 25, attributes := #[] }, { accessFlags := 25, nameIndex := 162, descriptorIndex := 25, attributes := #[] }, { accessFlags := 25, nameIndex := 187, descriptorIndex := 25, attributes := #[] }, { accessFlags := 26, nameIndex := 48, descriptorIndex := 25, attributes := #[] }, { accessFlags := 25, nameIndex := 277, descriptorIndex := 25, attributes := #[] }, { accessFlags := 25, nameIndex := 280, descriptorIndex := 25, attributes := #[] }, { accessFlags := 25, nameIndex := 282, descriptorIndex := 25, attributes := #[] }, { accessFlags := 25, nameIndex := 284, descriptorIndex := 25, attributes := #[] }, { accessFlags := 25, nameIndex := 286, descriptorIndex := 25, attributes := #[] }, { accessFlags := 25, nameIndex := 288, descriptorIndex := 25, attributes := #[] }, { accessFlags := 25, nameIndex := 290, descriptorIndex := 25, attributes := #[] }, { accessFlags := 25, nameIndex := 292, descriptorIndex := 25, attributes := #[] }, { accessFlags := 26, nameIndex := 108, descriptorIndex := 109, attributes := #[] }, { accessFlags := 25, nameIndex := 294, descriptorIndex := 25, attributes := #[] }])
  fields := #[{ name := "U", type := (.object "jdk/internal/misc/Unsafe"), accessFlags := 24, slot := 0, constantValue := 0 }, { name := "BIG_ENDIAN", type := .boolean, accessFlags := 26, slot := 1, constantValue := 0 }, { name := "LOG2_ARRAY_BOOLEAN_INDEX_SCALE", type := .int, accessFlags := 25, slot := 2, constantValue := 0 }, { name := "LOG2_ARRAY_BYTE_INDEX_SCALE", type := .int, accessFlags := 25, slot := 3, constantValue := 0 }, { name := "LOG2_ARRAY_CHAR_INDEX_SCALE", type := .int, accessFlags := 25, slot := 4, constantValue := 0 }, { name := "LOG2_ARRAY_SHORT_INDEX_SCALE", type := .int, accessFlags := 25, slot := 5, constantValue := 0 }, { name := "LOG2_ARRAY_INT_INDEX_SCALE", type := .int, accessFlags := 25, slot := 6, constantValue := 0 }, { name := "LOG2_ARRAY_LONG_INDEX_SCALE", type := .int, accessFlags := 25, slot := 7, constantValue := 0 }, { name := "LOG2_ARRAY_FLOAT_INDEX_SCALE", type := .int, accessFlags := 25, slot := 8, constantValue := 0 }, { name := "LOG2_ARRAY_DOUBLE_INDEX_SCALE", type := .int, accessFlags := 25, slot := 9, constantValue := 0 }, { name := "LOG2_BYTE_BIT_SIZE", type := .int, accessFlags := 26, slot := 10, constantValue := 0 }, { name := "T_BOOLEAN", type := .int, accessFlags := 25, slot := 11, constantValue := 0 }, { name := "T_CHAR", type := .int, accessFlags := 25, slot := 12, constantValue := 0 }, { name := "T_FLOAT", type := .int, accessFlags := 25, slot := 13, constantValue := 0 }, { name := "T_DOUBLE", type := .int, accessFlags := 25, slot := 14, constantValue := 0 }, { name := "T_BYTE", type := .int, accessFlags := 25, slot := 15, constantValue := 0 }, { name := "T_SHORT", type := .int, accessFlags := 25, slot := 16, constantValue := 0 }, { name := "T_INT", type := .int, accessFlags := 25, slot := 17, constantValue := 0 }, { name := "T_LONG", type := .int, accessFlags := 25, slot := 18, constantValue := 0 }, { name := "JLA", type := (.object "jdk/internal/access/JavaLangAccess"), accessFlags := 26, slot := 19, constantValue := 0 }, { name := "SOFT_MAX_ARRAY_LENGTH", type := .int, accessFlags := 25, slot := 20, constantValue := 0 }]
  methods := #[k15m0]
  instanceTypes := #[]
  staticTypes := #[(.object "jdk/internal/misc/Unsafe"), .boolean, .int, .int, .int, .int, .int, .int, .int, .int, .int, .int, .int, .int, .int, .int, .int, .int, .int, (.object "jdk/internal/access/JavaLangAccess"), .int]
  resolved := Array.replicate 378 none
  statics := none }

def pool16 : Array CpInfo := pool [(1, u "java/lang/Cloneable"), (0, .class_ 1), (0, u "java/lang/Object"), (0, .class_ 3)] 3

/-- java/lang/Cloneable -/
def k16 : Class := { plain "java/lang/Cloneable" (some 0) with
  accessFlags := 1537
  interfaces := #[]
  cf := some (fileOf pool16 2 #[] #[] 1537 4 #[] #[])
  fields := #[]
  methods := #[]
  instanceTypes := #[]
  staticTypes := #[]
  resolved := Array.replicate 8 none
  statics := none }

/-- the primitive byte -/
def k17 : Class := { plain "byte" none with kind := .primitive 'B', accessFlags := 0x411 }
/-- [B -/
def k18 : Class := { plain "[B" (some 0) with kind := .array 17 .byte, interfaces := #[16, 2], accessFlags := 1041 }

/-- the primitive char -/
def k19 : Class := { plain "char" none with kind := .primitive 'C', accessFlags := 0x411 }
/-- [C -/
def k20 : Class := { plain "[C" (some 0) with kind := .array 19 .char, interfaces := #[16, 2], accessFlags := 1041 }

/-- the primitive int -/
def k21 : Class := { plain "int" none with kind := .primitive 'I', accessFlags := 0x411 }
/-- [I -/
def k22 : Class := { plain "[I" (some 0) with kind := .array 21 .int, interfaces := #[16, 2], accessFlags := 1041 }

def heap : Heap := #[{ cls := 7, slots := #[.long 0, .int 1, .null, .int 0, .null, .int 0, .int 0], vm := .statics 7 },
  { cls := 12, slots := #[.null, .null, .null], vm := .statics 12 }]
def classes : Array Class := #[k0, k1, k2, k3, k4, k5, k6, k7, k8, k9, k10, k11, k12, k13, k14, k15, k16, k17, k18, k19, k20, k21, k22]
def interned : List (Array UInt16 × Addr) := []
def slotsUsed : Nat := 10
def theMethod : MethodId := ⟨1, 4⟩
def args0 : Array Value := #[.long 5, .int 5, .int 5]
def aboutOver (below : List Frame) : State where
  vm := { classes := classes, interned := interned.toArray }
  heap := heap
  slotsUsed := slotsUsed
  threads := #[{ frames := .invoking theMethod args0 :: below }]
def below0 : List Frame := [.native { method := ⟨0, 0⟩, args := #[] }]
def about1 : State := aboutOver below0
def p0 : Program := .bare "" "" ""
def e0 : Env := launch0.env 0 0 0
theorem w_frames : about1.frames = Frame.invoking theMethod args0 :: below0 := rfl
set_option maxRecDepth 65536 in
theorem w_args : argsFit about1.vm theMethod args0 = true := by decide +kernel
set_option maxRecDepth 65536 in
theorem w_heap : heapFits about1 = true := by decide +kernel
set_option maxRecDepth 65536 in
theorem w_runnable : about1.curStatus? = some .runnable := by decide +kernel
set_option maxRecDepth 65536 in
theorem w_alone : about1.alone = true := by decide +kernel
set_option maxRecDepth 65536 in
theorem w_named : about1.methodNamed? x = some theMethod := by decide +kernel
set_option maxRecDepth 65536 in
theorem w_hears : about1.hears theMethod below0 = true := by decide +kernel
set_option maxRecDepth 65536 in
theorem w_ripe : about1.ripe theMethod args0 below0 = true := by decide +kernel
theorem w_running : about1.status = .running := rfl
set_option maxRecDepth 65536 in
theorem w_room : about1.hasRoom e0.platform room_1 = true :=
  launch0.hasRoom_least _ room_1 (by decide +kernel) (by decide +kernel) (by decide +kernel) (by decide +kernel) (by decide +kernel) (by decide +kernel)
theorem allAtoms_all (ts : List Jvm.Cond) (a : Array Jvm.Value) (st : Jvm.State) : (allAtoms ts).before a st = ts.all (fun c => c.before a st) := by
  induction ts with
  | nil => rfl
  | cons c t ih =>
    show (Jvm.Cond.and c (allAtoms t)).before a st = _
    rw [Jvm.Cond.before_and, ih, List.all_cons]
def words1 : List Jvm.Cond := Jvm.Cond.code x code maxLocals ret :: tables_1
/-- a 'code' word, met by the world's own term for the bytes: nothing is compared byte by byte -/
theorem code_word {y : MethodName} {bytes : ByteArray} {mx : Nat} {rt : Option FieldType} {a : Array Value} {s : State} {m : MethodId} {meth : Method} {c : Code} (h1 : s.methodNamed? y = some m) (h2 : s.vm.method? m = some meth) (h3 : meth.code = some c) (h4 : c.code = bytes)
    (h5 : (c.maxLocals == mx && c.exceptionTable.isEmpty && decide (c.maxStack ≤ mostOperands) && decide (meth.sig.returnType = rt) && !meth.locks && decide (parseMethodDescriptor y.desc = some meth.sig)) = true) : (Jvm.Cond.code y bytes mx rt).before a s = true := by
  simp only [Bool.and_eq_true, beq_iff_eq, Bool.not_eq_true', decide_eq_true_eq] at h5
  obtain ⟨⟨⟨⟨⟨g1, g2⟩, g3⟩, g4⟩, g5⟩, g6⟩ := h5
  simp [Cond.before, Cond.holds, Cond.value, h1, h2, h3, h4, g1, g2, g3, g4, g5, g6]
def isCode : Jvm.Cond → Bool
  | .code _ _ _ _ => true
  | _ => false
theorem all_split {L : List Jvm.Cond} {P : Jvm.Cond → Bool} (h1 : L.all (fun c => isCode c || P c) = true) (h2 : ∀ c ∈ L.filter isCode, P c = true) : L.all P = true := by
  refine List.all_eq_true.mpr fun c hc => ?_
  have h := List.all_eq_true.mp h1 c hc
  rcases Bool.eq_false_or_eq_true (isCode c) with hi | hi
  · exact h2 c (List.mem_filter.mpr ⟨hc, hi⟩)
  · simpa [hi] using h
set_option maxRecDepth 65536 in
theorem w_c0 : (Jvm.Cond.code x code maxLocals ret).before args0 about1 = true := code_word (m := ⟨1, 4⟩) (meth := k1m4) (c := k1c4) (by decide +kernel) rfl rfl rfl (by decide +kernel)
set_option maxRecDepth 65536 in
theorem w_c1 : (Jvm.Cond.code ({ cls := "com/example/federation/federation/NamesDomainOfPinLaw", name := "letter", desc := "(I)C" } : Jvm.MethodName) method_2_code (2 : Nat) (Option.some Jvm.ClassFile.FieldType.char)).before args0 about1 = true := code_word (m := ⟨1, 1⟩) (meth := k1m1) (c := k1c1) (by decide +kernel) rfl rfl rfl (by decide +kernel)
set_option maxRecDepth 65536 in
theorem w_c2 : (Jvm.Cond.code ({ cls := "com/example/federation/federation/NamesDomainOfPinLaw", name := "nameChar", desc := "(I)C" } : Jvm.MethodName) method_3_code (2 : Nat) (Option.some Jvm.ClassFile.FieldType.char)).before args0 about1 = true := code_word (m := ⟨1, 2⟩) (meth := k1m2) (c := k1c2) (by decide +kernel) rfl rfl rfl (by decide +kernel)
set_option maxRecDepth 65536 in
theorem w_c3 : (Jvm.Cond.code ({ cls := "com/example/federation/federation/NamesDomainOfPinLaw", name := "text", desc := "([CI)Ljava/lang/String;" } : Jvm.MethodName) method_4_code (2 : Nat) (Option.some (Jvm.ClassFile.FieldType.object "java/lang/String"))).before args0 about1 = true := code_word (m := ⟨1, 3⟩) (meth := k1m3) (c := k1c3) (by decide +kernel) rfl rfl rfl (by decide +kernel)
set_option maxRecDepth 65536 in
theorem w_c4 : (Jvm.Cond.code ({ cls := "java/lang/String", name := "<init>", desc := "([C)V" } : Jvm.MethodName) jdk_42_method_3_code (2 : Nat) (Option.none : Option Jvm.ClassFile.FieldType)).before args0 about1 = true := code_word (m := ⟨7, 1⟩) (meth := k7m1) (c := k7c1) (by decide +kernel) rfl rfl rfl (by decide +kernel)
set_option maxRecDepth 65536 in
theorem w_c5 : (Jvm.Cond.code ({ cls := "java/lang/String", name := "<init>", desc := "([CIILjava/lang/Void;)V" } : Jvm.MethodName) jdk_42_method_149_code (6 : Nat) (Option.none : Option Jvm.ClassFile.FieldType)).before args0 about1 = true := code_word (m := ⟨7, 7⟩) (meth := k7m7) (c := k7c7) (by decide +kernel) rfl rfl rfl (by decide +kernel)
set_option maxRecDepth 65536 in
theorem w_c6 : (Jvm.Cond.code ({ cls := "java/lang/Object", name := "<init>", desc := "()V" } : Jvm.MethodName) object_method_1_code (1 : Nat) (Option.none : Option Jvm.ClassFile.FieldType)).before args0 about1 = true := code_word (m := ⟨0, 0⟩) (meth := k0m0) (c := k0c0) (by decide +kernel) rfl rfl rfl (by decide +kernel)
set_option maxRecDepth 65536 in
theorem w_c7 : (Jvm.Cond.code ({ cls := "java/lang/StringUTF16", name := "compress", desc := "([CII)[B" } : Jvm.MethodName) jdk_52_method_16_code (6 : Nat) (Option.some (Jvm.ClassFile.FieldType.array Jvm.ClassFile.FieldType.byte))).before args0 about1 = true := code_word (m := ⟨8, 2⟩) (meth := k8m2) (c := k8c2) (by decide +kernel) rfl rfl rfl (by decide +kernel)
set_option maxRecDepth 65536 in
theorem w_c8 : (Jvm.Cond.code ({ cls := "java/lang/StringUTF16", name := "compress", desc := "([CI[BII)I" } : Jvm.MethodName) jdk_52_method_21_code (7 : Nat) (Option.some Jvm.ClassFile.FieldType.int)).before args0 about1 = true := code_word (m := ⟨8, 3⟩) (meth := k8m3) (c := k8c3) (by decide +kernel) rfl rfl rfl (by decide +kernel)
set_option maxRecDepth 65536 in
theorem w_c9 : (Jvm.Cond.code ({ cls := "java/lang/StringUTF16", name := "coderFromArrayLen", desc := "([BI)B" } : Jvm.MethodName) jdk_52_method_15_code (2 : Nat) (Option.some Jvm.ClassFile.FieldType.byte)).before args0 about1 = true := code_word (m := ⟨8, 1⟩) (meth := k8m1) (c := k8c1) (by decide +kernel) rfl rfl rfl (by decide +kernel)
set_option maxRecDepth 65536 in
theorem w_c10 : (Jvm.Cond.code ({ cls := "com/example/federation/federation/Names", name := "domainOf", desc := "(Ljava/lang/String;)Ljava/lang/String;" } : Jvm.MethodName) prog_26_method_5_code (1 : Nat) (Option.some (Jvm.ClassFile.FieldType.object "java/lang/String"))).before args0 about1 = true := code_word (m := ⟨9, 1⟩) (meth := k9m1) (c := k9c1) (by decide +kernel) rfl rfl rfl (by decide +kernel)
set_option maxRecDepth 65536 in
theorem w_c11 : (Jvm.Cond.code ({ cls := "java/lang/String", name := "indexOf", desc := "(I)I" } : Jvm.MethodName) jdk_42_method_79_code (2 : Nat) (Option.some Jvm.ClassFile.FieldType.int)).before args0 about1 = true := code_word (m := ⟨7, 4⟩) (meth := k7m4) (c := k7c4) (by decide +kernel) rfl rfl rfl (by decide +kernel)
set_option maxRecDepth 65536 in
theorem w_c12 : (Jvm.Cond.code ({ cls := "java/lang/String", name := "indexOf", desc := "(II)I" } : Jvm.MethodName) jdk_42_method_80_code (3 : Nat) (Option.some Jvm.ClassFile.FieldType.int)).before args0 about1 = true := code_word (m := ⟨7, 5⟩) (meth := k7m5) (c := k7c5) (by decide +kernel) rfl rfl rfl (by decide +kernel)
set_option maxRecDepth 65536 in
theorem w_c13 : (Jvm.Cond.code ({ cls := "java/lang/String", name := "isLatin1", desc := "()Z" } : Jvm.MethodName) jdk_42_method_154_code (1 : Nat) (Option.some Jvm.ClassFile.FieldType.boolean)).before args0 about1 = true := code_word (m := ⟨7, 10⟩) (meth := k7m10) (c := k7c10) (by decide +kernel) rfl rfl rfl (by decide +kernel)
set_option maxRecDepth 65536 in
theorem w_c14 : (Jvm.Cond.code ({ cls := "java/lang/String", name := "length", desc := "()I" } : Jvm.MethodName) jdk_42_method_54_code (1 : Nat) (Option.some Jvm.ClassFile.FieldType.int)).before args0 about1 = true := code_word (m := ⟨7, 2⟩) (meth := k7m2) (c := k7c2) (by decide +kernel) rfl rfl rfl (by decide +kernel)
set_option maxRecDepth 65536 in
theorem w_c15 : (Jvm.Cond.code ({ cls := "java/lang/String", name := "coder", desc := "()B" } : Jvm.MethodName) jdk_42_method_152_code (1 : Nat) (Option.some Jvm.ClassFile.FieldType.byte)).before args0 about1 = true := code_word (m := ⟨7, 9⟩) (meth := k7m9) (c := k7c9) (by decide +kernel) rfl rfl rfl (by decide +kernel)
set_option maxRecDepth 65536 in
theorem w_c16 : (Jvm.Cond.code ({ cls := "java/lang/StringLatin1", name := "indexOf", desc := "([BIII)I" } : Jvm.MethodName) jdk_43_method_22_code (4 : Nat) (Option.some Jvm.ClassFile.FieldType.int)).before args0 about1 = true := code_word (m := ⟨10, 3⟩) (meth := k10m3) (c := k10c3) (by decide +kernel) rfl rfl rfl (by decide +kernel)
set_option maxRecDepth 65536 in
theorem w_c17 : (Jvm.Cond.code ({ cls := "java/lang/StringLatin1", name := "canEncode", desc := "(I)Z" } : Jvm.MethodName) jdk_43_method_4_code (1 : Nat) (Option.some Jvm.ClassFile.FieldType.boolean)).before args0 about1 = true := code_word (m := ⟨10, 1⟩) (meth := k10m1) (c := k10c1) (by decide +kernel) rfl rfl rfl (by decide +kernel)
set_option maxRecDepth 65536 in
theorem w_c18 : (Jvm.Cond.code ({ cls := "java/lang/Math", name := "max", desc := "(II)I" } : Jvm.MethodName) jdk_29_method_65_code (2 : Nat) (Option.some Jvm.ClassFile.FieldType.int)).before args0 about1 = true := code_word (m := ⟨11, 1⟩) (meth := k11m1) (c := k11c1) (by decide +kernel) rfl rfl rfl (by decide +kernel)
set_option maxRecDepth 65536 in
theorem w_c19 : (Jvm.Cond.code ({ cls := "java/lang/Math", name := "min", desc := "(II)I" } : Jvm.MethodName) jdk_29_method_69_code (2 : Nat) (Option.some Jvm.ClassFile.FieldType.int)).before args0 about1 = true := code_word (m := ⟨11, 2⟩) (meth := k11m2) (c := k11c2) (by decide +kernel) rfl rfl rfl (by decide +kernel)
set_option maxRecDepth 65536 in
theorem w_c20 : (Jvm.Cond.code ({ cls := "java/lang/StringLatin1", name := "indexOfChar", desc := "([BIII)I" } : Jvm.MethodName) jdk_43_method_23_code (6 : Nat) (Option.some Jvm.ClassFile.FieldType.int)).before args0 about1 = true := code_word (m := ⟨10, 4⟩) (meth := k10m4) (c := k10c4) (by decide +kernel) rfl rfl rfl (by decide +kernel)
set_option maxRecDepth 65536 in
theorem w_c21 : (Jvm.Cond.code ({ cls := "java/lang/String", name := "substring", desc := "(II)Ljava/lang/String;" } : Jvm.MethodName) jdk_42_method_92_code (5 : Nat) (Option.some (Jvm.ClassFile.FieldType.object "java/lang/String"))).before args0 about1 = true := code_word (m := ⟨7, 6⟩) (meth := k7m6) (c := k7c6) (by decide +kernel) rfl rfl rfl (by decide +kernel)
set_option maxRecDepth 65536 in
theorem w_c22 : (Jvm.Cond.code ({ cls := "java/lang/String", name := "checkBoundsBeginEnd", desc := "(III)V" } : Jvm.MethodName) jdk_42_method_158_code (3 : Nat) (Option.none : Option Jvm.ClassFile.FieldType)).before args0 about1 = true := code_word (m := ⟨7, 11⟩) (meth := k7m11) (c := k7c11) (by decide +kernel) rfl rfl rfl (by decide +kernel)
set_option maxRecDepth 65536 in
theorem w_c23 : (Jvm.Cond.code ({ cls := "jdk/internal/util/Preconditions", name := "checkFromToIndex", desc := "(IIILjava/util/function/BiFunction;)I" } : Jvm.MethodName) jdk_41_method_12_code (4 : Nat) (Option.some Jvm.ClassFile.FieldType.int)).before args0 about1 = true := code_word (m := ⟨12, 1⟩) (meth := k12m1) (c := k12c1) (by decide +kernel) rfl rfl rfl (by decide +kernel)
set_option maxRecDepth 65536 in
theorem w_c24 : (Jvm.Cond.code ({ cls := "java/lang/StringLatin1", name := "newString", desc := "([BII)Ljava/lang/String;" } : Jvm.MethodName) jdk_43_method_47_code (3 : Nat) (Option.some (Jvm.ClassFile.FieldType.object "java/lang/String"))).before args0 about1 = true := code_word (m := ⟨10, 5⟩) (meth := k10m5) (c := k10c5) (by decide +kernel) rfl rfl rfl (by decide +kernel)
set_option maxRecDepth 65536 in
theorem w_c25 : (Jvm.Cond.code ({ cls := "java/util/Arrays", name := "copyOfRange", desc := "([BII)[B" } : Jvm.MethodName) jdk_65_method_132_code (3 : Nat) (Option.some (Jvm.ClassFile.FieldType.array Jvm.ClassFile.FieldType.byte))).before args0 about1 = true := code_word (m := ⟨13, 2⟩) (meth := k13m2) (c := k13c2) (by decide +kernel) rfl rfl rfl (by decide +kernel)
set_option maxRecDepth 65536 in
theorem w_c26 : (Jvm.Cond.code ({ cls := "java/util/Arrays", name := "copyOfRangeByte", desc := "([BII)[B" } : Jvm.MethodName) jdk_65_method_133_code (5 : Nat) (Option.some (Jvm.ClassFile.FieldType.array Jvm.ClassFile.FieldType.byte))).before args0 about1 = true := code_word (m := ⟨13, 3⟩) (meth := k13m3) (c := k13c3) (by decide +kernel) rfl rfl rfl (by decide +kernel)
set_option maxRecDepth 65536 in
theorem w_c27 : (Jvm.Cond.code ({ cls := "java/util/Arrays", name := "checkLength", desc := "(II)V" } : Jvm.MethodName) jdk_65_method_131_code (2 : Nat) (Option.none : Option Jvm.ClassFile.FieldType)).before args0 about1 = true := code_word (m := ⟨13, 1⟩) (meth := k13m1) (c := k13c1) (by decide +kernel) rfl rfl rfl (by decide +kernel)
set_option maxRecDepth 65536 in
theorem w_c28 : (Jvm.Cond.code ({ cls := "java/lang/String", name := "<init>", desc := "([BB)V" } : Jvm.MethodName) jdk_42_method_151_code (3 : Nat) (Option.none : Option Jvm.ClassFile.FieldType)).before args0 about1 = true := code_word (m := ⟨7, 8⟩) (meth := k7m8) (c := k7c8) (by decide +kernel) rfl rfl rfl (by decide +kernel)
set_option maxRecDepth 65536 in
theorem w_c29 : (Jvm.Cond.code ({ cls := "java/lang/String", name := "equals", desc := "(Ljava/lang/Object;)Z" } : Jvm.MethodName) jdk_42_method_66_code (3 : Nat) (Option.some Jvm.ClassFile.FieldType.boolean)).before args0 about1 = true := code_word (m := ⟨7, 3⟩) (meth := k7m3) (c := k7c3) (by decide +kernel) rfl rfl rfl (by decide +kernel)
set_option maxRecDepth 65536 in
theorem w_c30 : (Jvm.Cond.code ({ cls := "java/lang/StringLatin1", name := "equals", desc := "([B[B)Z" } : Jvm.MethodName) jdk_43_method_13_code (3 : Nat) (Option.some Jvm.ClassFile.FieldType.boolean)).before args0 about1 = true := code_word (m := ⟨10, 2⟩) (meth := k10m2) (c := k10c2) (by decide +kernel) rfl rfl rfl (by decide +kernel)
def codes1 : List Jvm.Cond := [Jvm.Cond.code x code maxLocals ret, Jvm.Cond.code ({ cls := "com/example/federation/federation/NamesDomainOfPinLaw", name := "letter", desc := "(I)C" } : Jvm.MethodName) method_2_code (2 : Nat) (Option.some Jvm.ClassFile.FieldType.char), Jvm.Cond.code ({ cls := "com/example/federation/federation/NamesDomainOfPinLaw", name := "nameChar", desc := "(I)C" } : Jvm.MethodName) method_3_code (2 : Nat) (Option.some Jvm.ClassFile.FieldType.char), Jvm.Cond.code ({ cls := "com/example/federation/federation/NamesDomainOfPinLaw", name := "text", desc := "([CI)Ljava/lang/String;" } : Jvm.MethodName) method_4_code (2 : Nat) (Option.some (Jvm.ClassFile.FieldType.object "java/lang/String")), Jvm.Cond.code ({ cls := "java/lang/String", name := "<init>", desc := "([C)V" } : Jvm.MethodName) jdk_42_method_3_code (2 : Nat) (Option.none : Option Jvm.ClassFile.FieldType), Jvm.Cond.code ({ cls := "java/lang/String", name := "<init>", desc := "([CIILjava/lang/Void;)V" } : Jvm.MethodName) jdk_42_method_149_code (6 : Nat) (Option.none : Option Jvm.ClassFile.FieldType), Jvm.Cond.code ({ cls := "java/lang/Object", name := "<init>", desc := "()V" } : Jvm.MethodName) object_method_1_code (1 : Nat) (Option.none : Option Jvm.ClassFile.FieldType), Jvm.Cond.code ({ cls := "java/lang/StringUTF16", name := "compress", desc := "([CII)[B" } : Jvm.MethodName) jdk_52_method_16_code (6 : Nat) (Option.some (Jvm.ClassFile.FieldType.array Jvm.ClassFile.FieldType.byte)), Jvm.Cond.code ({ cls := "java/lang/StringUTF16", name := "compress", desc := "([CI[BII)I" } : Jvm.MethodName) jdk_52_method_21_code (7 : Nat) (Option.some Jvm.ClassFile.FieldType.int), Jvm.Cond.code ({ cls := "java/lang/StringUTF16", name := "coderFromArrayLen", desc := "([BI)B" } : Jvm.MethodName) jdk_52_method_15_code (2 : Nat) (Option.some Jvm.ClassFile.FieldType.byte), Jvm.Cond.code ({ cls := "com/example/federation/federation/Names", name := "domainOf", desc := "(Ljava/lang/String;)Ljava/lang/String;" } : Jvm.MethodName) prog_26_method_5_code (1 : Nat) (Option.some (Jvm.ClassFile.FieldType.object "java/lang/String")), Jvm.Cond.code ({ cls := "java/lang/String", name := "indexOf", desc := "(I)I" } : Jvm.MethodName) jdk_42_method_79_code (2 : Nat) (Option.some Jvm.ClassFile.FieldType.int), Jvm.Cond.code ({ cls := "java/lang/String", name := "indexOf", desc := "(II)I" } : Jvm.MethodName) jdk_42_method_80_code (3 : Nat) (Option.some Jvm.ClassFile.FieldType.int), Jvm.Cond.code ({ cls := "java/lang/String", name := "isLatin1", desc := "()Z" } : Jvm.MethodName) jdk_42_method_154_code (1 : Nat) (Option.some Jvm.ClassFile.FieldType.boolean), Jvm.Cond.code ({ cls := "java/lang/String", name := "length", desc := "()I" } : Jvm.MethodName) jdk_42_method_54_code (1 : Nat) (Option.some Jvm.ClassFile.FieldType.int), Jvm.Cond.code ({ cls := "java/lang/String", name := "coder", desc := "()B" } : Jvm.MethodName) jdk_42_method_152_code (1 : Nat) (Option.some Jvm.ClassFile.FieldType.byte), Jvm.Cond.code ({ cls := "java/lang/StringLatin1", name := "indexOf", desc := "([BIII)I" } : Jvm.MethodName) jdk_43_method_22_code (4 : Nat) (Option.some Jvm.ClassFile.FieldType.int), Jvm.Cond.code ({ cls := "java/lang/StringLatin1", name := "canEncode", desc := "(I)Z" } : Jvm.MethodName) jdk_43_method_4_code (1 : Nat) (Option.some Jvm.ClassFile.FieldType.boolean), Jvm.Cond.code ({ cls := "java/lang/Math", name := "max", desc := "(II)I" } : Jvm.MethodName) jdk_29_method_65_code (2 : Nat) (Option.some Jvm.ClassFile.FieldType.int), Jvm.Cond.code ({ cls := "java/lang/Math", name := "min", desc := "(II)I" } : Jvm.MethodName) jdk_29_method_69_code (2 : Nat) (Option.some Jvm.ClassFile.FieldType.int), Jvm.Cond.code ({ cls := "java/lang/StringLatin1", name := "indexOfChar", desc := "([BIII)I" } : Jvm.MethodName) jdk_43_method_23_code (6 : Nat) (Option.some Jvm.ClassFile.FieldType.int), Jvm.Cond.code ({ cls := "java/lang/String", name := "substring", desc := "(II)Ljava/lang/String;" } : Jvm.MethodName) jdk_42_method_92_code (5 : Nat) (Option.some (Jvm.ClassFile.FieldType.object "java/lang/String")), Jvm.Cond.code ({ cls := "java/lang/String", name := "checkBoundsBeginEnd", desc := "(III)V" } : Jvm.MethodName) jdk_42_method_158_code (3 : Nat) (Option.none : Option Jvm.ClassFile.FieldType), Jvm.Cond.code ({ cls := "jdk/internal/util/Preconditions", name := "checkFromToIndex", desc := "(IIILjava/util/function/BiFunction;)I" } : Jvm.MethodName) jdk_41_method_12_code (4 : Nat) (Option.some Jvm.ClassFile.FieldType.int), Jvm.Cond.code ({ cls := "java/lang/StringLatin1", name := "newString", desc := "([BII)Ljava/lang/String;" } : Jvm.MethodName) jdk_43_method_47_code (3 : Nat) (Option.some (Jvm.ClassFile.FieldType.object "java/lang/String")), Jvm.Cond.code ({ cls := "java/util/Arrays", name := "copyOfRange", desc := "([BII)[B" } : Jvm.MethodName) jdk_65_method_132_code (3 : Nat) (Option.some (Jvm.ClassFile.FieldType.array Jvm.ClassFile.FieldType.byte)), Jvm.Cond.code ({ cls := "java/util/Arrays", name := "copyOfRangeByte", desc := "([BII)[B" } : Jvm.MethodName) jdk_65_method_133_code (5 : Nat) (Option.some (Jvm.ClassFile.FieldType.array Jvm.ClassFile.FieldType.byte)), Jvm.Cond.code ({ cls := "java/util/Arrays", name := "checkLength", desc := "(II)V" } : Jvm.MethodName) jdk_65_method_131_code (2 : Nat) (Option.none : Option Jvm.ClassFile.FieldType), Jvm.Cond.code ({ cls := "java/lang/String", name := "<init>", desc := "([BB)V" } : Jvm.MethodName) jdk_42_method_151_code (3 : Nat) (Option.none : Option Jvm.ClassFile.FieldType), Jvm.Cond.code ({ cls := "java/lang/String", name := "equals", desc := "(Ljava/lang/Object;)Z" } : Jvm.MethodName) jdk_42_method_66_code (3 : Nat) (Option.some Jvm.ClassFile.FieldType.boolean), Jvm.Cond.code ({ cls := "java/lang/StringLatin1", name := "equals", desc := "([B[B)Z" } : Jvm.MethodName) jdk_43_method_13_code (3 : Nat) (Option.some Jvm.ClassFile.FieldType.boolean)]
set_option maxRecDepth 65536 in
theorem codes_eq : words1.filter isCode = codes1 := rfl
theorem w_codes : ∀ c ∈ words1.filter isCode, c.before args0 about1 = true := by
  rw [codes_eq]
  intro c hc
  simp only [codes1, List.mem_cons, List.not_mem_nil, or_false] at hc
  rcases hc with rfl | rfl | rfl | rfl | rfl | rfl | rfl | rfl | rfl | rfl | rfl | rfl | rfl | rfl | rfl | rfl | rfl | rfl | rfl | rfl | rfl | rfl | rfl | rfl | rfl | rfl | rfl | rfl | rfl | rfl | rfl
  · exact w_c0
  · exact w_c1
  · exact w_c2
  · exact w_c3
  · exact w_c4
  · exact w_c5
  · exact w_c6
  · exact w_c7
  · exact w_c8
  · exact w_c9
  · exact w_c10
  · exact w_c11
  · exact w_c12
  · exact w_c13
  · exact w_c14
  · exact w_c15
  · exact w_c16
  · exact w_c17
  · exact w_c18
  · exact w_c19
  · exact w_c20
  · exact w_c21
  · exact w_c22
  · exact w_c23
  · exact w_c24
  · exact w_c25
  · exact w_c26
  · exact w_c27
  · exact w_c28
  · exact w_c29
  · exact w_c30
set_option maxRecDepth 65536 in
theorem w_t1 : (words1.take 24).all (fun c => isCode c || c.before args0 about1) = true := by decide +kernel
set_option maxRecDepth 65536 in
theorem w_t2 : ((words1.drop 24).take 24).all (fun c => isCode c || c.before args0 about1) = true := by decide +kernel
set_option maxRecDepth 65536 in
theorem w_t3 : (((words1.drop 24).drop 24).take 24).all (fun c => isCode c || c.before args0 about1) = true := by decide +kernel
set_option maxRecDepth 65536 in
theorem w_t4 : ((((words1.drop 24).drop 24).drop 24).take 24).all (fun c => isCode c || c.before args0 about1) = true := by decide +kernel
set_option maxRecDepth 65536 in
theorem w_t5 : (((((words1.drop 24).drop 24).drop 24).drop 24).take 24).all (fun c => isCode c || c.before args0 about1) = true := by decide +kernel
set_option maxRecDepth 65536 in
theorem w_t6 : (((((words1.drop 24).drop 24).drop 24).drop 24).drop 24).all (fun c => isCode c || c.before args0 about1) = true := by decide +kernel
theorem w_tables : (allAtoms (Jvm.Cond.code x code maxLocals ret :: tables_1)).before args0 about1 = true := by
  rw [allAtoms_all]
  show words1.all (fun c => c.before args0 about1) = true
  refine all_split ?_ w_codes
  rw [← List.take_append_drop 24 words1, List.all_append, w_t1, ← List.take_append_drop 24 (words1.drop 24), List.all_append, w_t2, ← List.take_append_drop 24 ((words1.drop 24).drop 24), List.all_append, w_t3, ← List.take_append_drop 24 (((words1.drop 24).drop 24).drop 24), List.all_append, w_t4, ← List.take_append_drop 24 ((((words1.drop 24).drop 24).drop 24).drop 24), List.all_append, w_t5, w_t6]
  rfl
set_option maxRecDepth 65536 in
theorem w_rest : rest_1_c.before args0 about1 = true := by decide +kernel
set_option maxRecDepth 65536 in
theorem w_case : (Jvm.Cond.and given_1 narrow_1).before args0 about1 = true := by decide +kernel
theorem w_applies : (headSpec (Jvm.Cond.code x code maxLocals ret :: tables_1) room_1).applies x e0.platform about1 = true :=
  (Spec.applies_iff w_frames).mpr ⟨w_running, w_runnable, w_alone, w_named, w_hears, w_ripe, w_room, w_tables⟩
theorem atStart : AtStart classFile x code maxLocals ret World_1 tables_1 room_1 Calls_1 rest_1 Pre_1 launch0 p0 e0 about1 theMethod args0 below0 :=
  ⟨lists_1, trivial, launch0.admits_env _ _ _, launch0.least_env, fairChoices_fair.cas, fairChoices_fair.clock, w_frames, w_args, w_heap, w_applies, trivial, w_rest, w_case⟩
end start1
theorem witness_1 : WitnessClaimed_1 := ⟨start1.p0, start1.e0, start1.about1, start1.theMethod, start1.args0, start1.below0, start1.atStart⟩
end Jvm.Pilot.@@N@@
