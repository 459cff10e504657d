import JvmDerived
import JvmDerived.Pilot.@@N@@Statement
import JvmDerived.Pilot.@@N@@Code
set_option linter.unusedVariables false
set_option linter.unusedSimpArgs false
@@BLOCK:NumsL.lean.txt@@
namespace Jvm.OwnKit
open Sem ClassFile Op Lib Jvm.Stand Jvm.Free Jvm.LawKit Jvm.RoadKit
/-- from t the invocation runs to its end, and Post holds there -/
def Goes (p : Program) (e : Env) (below : List Frame) (Post : Outcome → State → Prop) (t : State) : Prop :=
  ∃ s₂ o, Steps p.tables e below t s₂ ∧ s₂.status = .running ∧ Ended s₂ below o ∧ Post o s₂
def i2c (x : Int32) : Int32 := x.toUInt32.toUInt16.toUInt32.toInt32
def i2b (x : Int32) : Int32 := x.toInt8.toInt32
section Goes
variable {p : Program} {e : Env} {below : List Frame} {Post : Outcome → State → Prop} {T T' t t' : State} {m : MethodId} {c : Code} {pc : Nat} {ls : Array Slot} {st rest : List Value}
theorem Goes.go (st : ∀ tg, Steps p.tables e below t' tg → Steps p.tables e below t tg) (h : Goes p e below Post t') : Goes p e below Post t := by
  obtain ⟨s₂, o, h1, h2⟩ := h
  exact ⟨s₂, o, st _ h1, h2⟩
theorem Goes.run (st : Steps p.tables e below t t') (h : Goes p e below Post t') : Goes p e below Post t := by
  obtain ⟨s₂, o, h1, h2⟩ := h
  exact ⟨s₂, o, st.trans h1, h2⟩
theorem Goes.cast {g g' : JFrame} (q : g = g') (h : Goes p e below Post (T.setTop g')) : Goes p e below Post (T.setTop g) := q ▸ h
theorem zeq {x : Int32} (h : x = 0) : ifCond.holds .eq x = true ∧ ifCond.holds .ne x = false := by subst h; exact ⟨rfl, rfl⟩
theorem zne {x : Int32} (h : ¬ x = 0) : ifCond.holds .eq x = false ∧ ifCond.holds .ne x = true := by
  have q : (x == 0) = false := by simp [h]
  exact ⟨q, by show (!(x == 0)) = true; rw [q]; rfl⟩
theorem zlt {x : Int32} (h : x < 0) : ifCond.holds .lt x = true ∧ ifCond.holds .ge x = false := ⟨decide_eq_true h, decide_eq_false (Int32.not_le.mpr h)⟩
theorem znl {x : Int32} (h : ¬ x < 0) : ifCond.holds .lt x = false ∧ ifCond.holds .ge x = true := ⟨decide_eq_false h, decide_eq_true (Int32.not_lt.mp h)⟩
theorem zgt {x : Int32} (h : 0 < x) : ifCond.holds .gt x = true ∧ ifCond.holds .le x = false := ⟨decide_eq_true h, decide_eq_false (Int32.not_le.mpr h)⟩
theorem zng {x : Int32} (h : ¬ 0 < x) : ifCond.holds .gt x = false ∧ ifCond.holds .le x = true := ⟨decide_eq_false h, decide_eq_true (Int32.not_lt.mp h)⟩
namespace G
theorem iload (h : At T m c below) (hx : p.tables.exec = Jvm.exec) (pc' : Nat) {k : Nat} {v : Int32} (hd : decode c.code pc = .ok (.iload k, 2)) (hl : ls[k]? = some (.val (.int v))) (hp : pc + 2 = pc')
    (K : Goes p e below Post (T.setTop (mkF m pc' ls (.int v :: st)))) : Goes p e below Post (T.setTop (mkF m pc ls st)) := by
  subst hp; exact Goes.go (fun _ k => XS.iload h hx rfl hd hl k) K
theorem iloadN (h : At T m c below) (hx : p.tables.exec = Jvm.exec) (pc' : Nat) {k : Fin 4} {v : Int32} (hd : decode c.code pc = .ok (.iload_n k, 1)) (hl : ls[k.val]? = some (.val (.int v))) (hp : pc + 1 = pc')
    (K : Goes p e below Post (T.setTop (mkF m pc' ls (.int v :: st)))) : Goes p e below Post (T.setTop (mkF m pc ls st)) := by
  subst hp; exact Goes.go (fun _ k => XS.iloadN h hx rfl hd hl k) K
theorem lload (h : At T m c below) (hx : p.tables.exec = Jvm.exec) (pc' : Nat) {k : Nat} {v : Int64} (hd : decode c.code pc = .ok (.lload k, 2)) (hl : ls[k]? = some (.val (.long v))) (hp : pc + 2 = pc')
    (K : Goes p e below Post (T.setTop (mkF m pc' ls (.long v :: st)))) : Goes p e below Post (T.setTop (mkF m pc ls st)) := by
  subst hp; exact Goes.go (fun _ k => XT.lload h hx rfl hd hl k) K
theorem lloadN (h : At T m c below) (hx : p.tables.exec = Jvm.exec) (pc' : Nat) {k : Fin 4} {v : Int64} (hd : decode c.code pc = .ok (.lload_n k, 1)) (hl : ls[k.val]? = some (.val (.long v))) (hp : pc + 1 = pc')
    (K : Goes p e below Post (T.setTop (mkF m pc' ls (.long v :: st)))) : Goes p e below Post (T.setTop (mkF m pc ls st)) := by
  subst hp; exact Goes.go (fun _ k => XT.lloadN h hx rfl hd hl k) K
theorem aload (h : At T m c below) (hx : p.tables.exec = Jvm.exec) (pc' : Nat) {k : Nat} {v : Value} (hd : decode c.code pc = .ok (.aload k, 2)) (hl : ls[k]? = some (.val v)) (hv : v.isRef = true) (hp : pc + 2 = pc')
    (K : Goes p e below Post (T.setTop (mkF m pc' ls (v :: st)))) : Goes p e below Post (T.setTop (mkF m pc ls st)) := by
  subst hp; exact Goes.go (fun _ k => XS.aload h hx rfl hd hl hv k) K
theorem aloadN (h : At T m c below) (hx : p.tables.exec = Jvm.exec) (pc' : Nat) {k : Fin 4} {v : Value} (hd : decode c.code pc = .ok (.aload_n k, 1)) (hl : ls[k.val]? = some (.val v)) (hv : v.isRef = true) (hp : pc + 1 = pc')
    (K : Goes p e below Post (T.setTop (mkF m pc' ls (v :: st)))) : Goes p e below Post (T.setTop (mkF m pc ls st)) := by
  subst hp; exact Goes.go (fun _ k => XS.aloadN h hx rfl hd hl hv k) K
theorem iconst (h : At T m c below) (hx : p.tables.exec = Jvm.exec) (pc' : Nat) (z : Int32) {i : Int} (hd : decode c.code pc = .ok (.iconst i, 1)) (hz : Int32.ofInt i = z) (hp : pc + 1 = pc')
    (K : Goes p e below Post (T.setTop (mkF m pc' ls (.int z :: st)))) : Goes p e below Post (T.setTop (mkF m pc ls st)) := by
  subst hp hz; exact Goes.go (fun _ k => XS.iconst h hx rfl hd k) K
theorem bipush (h : At T m c below) (hx : p.tables.exec = Jvm.exec) (pc' : Nat) (z : Int32) {i : Int} (hd : decode c.code pc = .ok (.bipush i, 2)) (hz : (Int8.ofInt i).toInt32 = z) (hp : pc + 2 = pc')
    (K : Goes p e below Post (T.setTop (mkF m pc' ls (.int z :: st)))) : Goes p e below Post (T.setTop (mkF m pc ls st)) := by
  subst hp hz; exact Goes.go (fun _ k => XS.bipush h hx rfl hd k) K
theorem sipush (h : At T m c below) (hx : p.tables.exec = Jvm.exec) (pc' : Nat) (z : Int32) {i : Int} (hd : decode c.code pc = .ok (.sipush i, 3)) (hz : (Int16.ofInt i).toInt32 = z) (hp : pc + 3 = pc')
    (K : Goes p e below Post (T.setTop (mkF m pc' ls (.int z :: st)))) : Goes p e below Post (T.setTop (mkF m pc ls st)) := by
  subst hp hz; exact Goes.go (fun _ k => XS.sipush h hx rfl hd k) K
theorem lconst (h : At T m c below) (hx : p.tables.exec = Jvm.exec) (pc' : Nat) (z : Int64) {i : Fin 2} (hd : decode c.code pc = .ok (.lconst i, 1)) (hz : Int64.ofNat i = z) (hp : pc + 1 = pc')
    (K : Goes p e below Post (T.setTop (mkF m pc' ls (.long z :: st)))) : Goes p e below Post (T.setTop (mkF m pc ls st)) := by
  subst hp hz; exact Goes.go (fun _ k => XT.lconst h hx rfl hd k) K
theorem aconstNull (h : At T m c below) (hx : p.tables.exec = Jvm.exec) (pc' : Nat)  (hd : decode c.code pc = .ok (.aconst_null, 1)) (hp : pc + 1 = pc')
    (K : Goes p e below Post (T.setTop (mkF m pc' ls (.null :: st)))) : Goes p e below Post (T.setTop (mkF m pc ls st)) := by
  subst hp; exact Goes.go (fun _ k => XS.aconstNull h hx rfl hd  k) K
theorem iadd (h : At T m c below) (hx : p.tables.exec = Jvm.exec) (pc' : Nat) {x y : Int32} (hd : decode c.code pc = .ok (.iadd, 1)) (hp : pc + 1 = pc')
    (K : Goes p e below Post (T.setTop (mkF m pc' ls (.int (x + y) :: st)))) : Goes p e below Post (T.setTop (mkF m pc ls (.int y :: .int x :: st))) := by
  subst hp; exact Goes.go (fun _ k => XS.iadd h hx rfl hd rfl k) K
theorem isub (h : At T m c below) (hx : p.tables.exec = Jvm.exec) (pc' : Nat) {x y : Int32} (hd : decode c.code pc = .ok (.isub, 1)) (hp : pc + 1 = pc')
    (K : Goes p e below Post (T.setTop (mkF m pc' ls (.int (x - y) :: st)))) : Goes p e below Post (T.setTop (mkF m pc ls (.int y :: .int x :: st))) := by
  subst hp; exact Goes.go (fun _ k => XS.isub h hx rfl hd rfl k) K
theorem imul (h : At T m c below) (hx : p.tables.exec = Jvm.exec) (pc' : Nat) {x y : Int32} (hd : decode c.code pc = .ok (.imul, 1)) (hp : pc + 1 = pc')
    (K : Goes p e below Post (T.setTop (mkF m pc' ls (.int (x * y) :: st)))) : Goes p e below Post (T.setTop (mkF m pc ls (.int y :: .int x :: st))) := by
  subst hp; exact Goes.go (fun _ k => XS.imul h hx rfl hd rfl k) K
theorem iand (h : At T m c below) (hx : p.tables.exec = Jvm.exec) (pc' : Nat) {x y : Int32} (hd : decode c.code pc = .ok (.iand, 1)) (hp : pc + 1 = pc')
    (K : Goes p e below Post (T.setTop (mkF m pc' ls (.int (x &&& y) :: st)))) : Goes p e below Post (T.setTop (mkF m pc ls (.int y :: .int x :: st))) := by
  subst hp; exact Goes.go (fun _ k => XS.iand h hx rfl hd rfl k) K
theorem ior (h : At T m c below) (hx : p.tables.exec = Jvm.exec) (pc' : Nat) {x y : Int32} (hd : decode c.code pc = .ok (.ior, 1)) (hp : pc + 1 = pc')
    (K : Goes p e below Post (T.setTop (mkF m pc' ls (.int (x ||| y) :: st)))) : Goes p e below Post (T.setTop (mkF m pc ls (.int y :: .int x :: st))) := by
  subst hp; exact Goes.go (fun _ k => XT.ior h hx rfl hd rfl k) K
theorem ixor (h : At T m c below) (hx : p.tables.exec = Jvm.exec) (pc' : Nat) {x y : Int32} (hd : decode c.code pc = .ok (.ixor, 1)) (hp : pc + 1 = pc')
    (K : Goes p e below Post (T.setTop (mkF m pc' ls (.int (x ^^^ y) :: st)))) : Goes p e below Post (T.setTop (mkF m pc ls (.int y :: .int x :: st))) := by
  subst hp; exact Goes.go (fun _ k => XT.ixor h hx rfl hd rfl k) K
theorem ishl (h : At T m c below) (hx : p.tables.exec = Jvm.exec) (pc' : Nat) {x y : Int32} (hd : decode c.code pc = .ok (.ishl, 1)) (hp : pc + 1 = pc')
    (K : Goes p e below Post (T.setTop (mkF m pc' ls (.int (x <<< (y &&& 31)) :: st)))) : Goes p e below Post (T.setTop (mkF m pc ls (.int y :: .int x :: st))) := by
  subst hp; exact Goes.go (fun _ k => XT.ishl h hx rfl hd rfl k) K
theorem ishr (h : At T m c below) (hx : p.tables.exec = Jvm.exec) (pc' : Nat) {x y : Int32} (hd : decode c.code pc = .ok (.ishr, 1)) (hp : pc + 1 = pc')
    (K : Goes p e below Post (T.setTop (mkF m pc' ls (.int (x >>> (y &&& 31)) :: st)))) : Goes p e below Post (T.setTop (mkF m pc ls (.int y :: .int x :: st))) := by
  subst hp; exact Goes.go (fun _ k => XT.ishr h hx rfl hd rfl k) K
theorem iushr (h : At T m c below) (hx : p.tables.exec = Jvm.exec) (pc' : Nat) {x y : Int32} (hd : decode c.code pc = .ok (.iushr, 1)) (hp : pc + 1 = pc')
    (K : Goes p e below Post (T.setTop (mkF m pc' ls (.int (XT.ushr x y) :: st)))) : Goes p e below Post (T.setTop (mkF m pc ls (.int y :: .int x :: st))) := by
  subst hp; exact Goes.go (fun _ k => XT.iushr h hx rfl hd rfl k) K
theorem ladd (h : At T m c below) (hx : p.tables.exec = Jvm.exec) (pc' : Nat) {x y : Int64} (hd : decode c.code pc = .ok (.ladd, 1)) (hp : pc + 1 = pc')
    (K : Goes p e below Post (T.setTop (mkF m pc' ls (.long (x + y) :: st)))) : Goes p e below Post (T.setTop (mkF m pc ls (.long y :: .long x :: st))) := by
  subst hp; exact Goes.go (fun _ k => XT.ladd h hx rfl hd rfl k) K
theorem lsub (h : At T m c below) (hx : p.tables.exec = Jvm.exec) (pc' : Nat) {x y : Int64} (hd : decode c.code pc = .ok (.lsub, 1)) (hp : pc + 1 = pc')
    (K : Goes p e below Post (T.setTop (mkF m pc' ls (.long (x - y) :: st)))) : Goes p e below Post (T.setTop (mkF m pc ls (.long y :: .long x :: st))) := by
  subst hp; exact Goes.go (fun _ k => XT.lsub h hx rfl hd rfl k) K
theorem lmul (h : At T m c below) (hx : p.tables.exec = Jvm.exec) (pc' : Nat) {x y : Int64} (hd : decode c.code pc = .ok (.lmul, 1)) (hp : pc + 1 = pc')
    (K : Goes p e below Post (T.setTop (mkF m pc' ls (.long (x * y) :: st)))) : Goes p e below Post (T.setTop (mkF m pc ls (.long y :: .long x :: st))) := by
  subst hp; exact Goes.go (fun _ k => XT.lmul h hx rfl hd rfl k) K
theorem land (h : At T m c below) (hx : p.tables.exec = Jvm.exec) (pc' : Nat) {x y : Int64} (hd : decode c.code pc = .ok (.land, 1)) (hp : pc + 1 = pc')
    (K : Goes p e below Post (T.setTop (mkF m pc' ls (.long (x &&& y) :: st)))) : Goes p e below Post (T.setTop (mkF m pc ls (.long y :: .long x :: st))) := by
  subst hp; exact Goes.go (fun _ k => XT.land h hx rfl hd rfl k) K
theorem lor (h : At T m c below) (hx : p.tables.exec = Jvm.exec) (pc' : Nat) {x y : Int64} (hd : decode c.code pc = .ok (.lor, 1)) (hp : pc + 1 = pc')
    (K : Goes p e below Post (T.setTop (mkF m pc' ls (.long (x ||| y) :: st)))) : Goes p e below Post (T.setTop (mkF m pc ls (.long y :: .long x :: st))) := by
  subst hp; exact Goes.go (fun _ k => XT.lor h hx rfl hd rfl k) K
theorem lxor (h : At T m c below) (hx : p.tables.exec = Jvm.exec) (pc' : Nat) {x y : Int64} (hd : decode c.code pc = .ok (.lxor, 1)) (hp : pc + 1 = pc')
    (K : Goes p e below Post (T.setTop (mkF m pc' ls (.long (x ^^^ y) :: st)))) : Goes p e below Post (T.setTop (mkF m pc ls (.long y :: .long x :: st))) := by
  subst hp; exact Goes.go (fun _ k => XT.lxor h hx rfl hd rfl k) K
theorem lshl (h : At T m c below) (hx : p.tables.exec = Jvm.exec) (pc' : Nat) {x : Int64} {y : Int32} (hd : decode c.code pc = .ok (.lshl, 1)) (hp : pc + 1 = pc')
    (K : Goes p e below Post (T.setTop (mkF m pc' ls (.long (x <<< (y.toInt64 &&& 63)) :: st)))) : Goes p e below Post (T.setTop (mkF m pc ls (.int y :: .long x :: st))) := by
  subst hp; exact Goes.go (fun _ k => XT.lshl h hx rfl hd rfl k) K
theorem lshr (h : At T m c below) (hx : p.tables.exec = Jvm.exec) (pc' : Nat) {x : Int64} {y : Int32} (hd : decode c.code pc = .ok (.lshr, 1)) (hp : pc + 1 = pc')
    (K : Goes p e below Post (T.setTop (mkF m pc' ls (.long (x >>> (y.toInt64 &&& 63)) :: st)))) : Goes p e below Post (T.setTop (mkF m pc ls (.int y :: .long x :: st))) := by
  subst hp; exact Goes.go (fun _ k => XT.lshr h hx rfl hd rfl k) K
theorem lushr (h : At T m c below) (hx : p.tables.exec = Jvm.exec) (pc' : Nat) {x : Int64} {y : Int32} (hd : decode c.code pc = .ok (.lushr, 1)) (hp : pc + 1 = pc')
    (K : Goes p e below Post (T.setTop (mkF m pc' ls (.long (XT.ushrL x y) :: st)))) : Goes p e below Post (T.setTop (mkF m pc ls (.int y :: .long x :: st))) := by
  subst hp; exact Goes.go (fun _ k => XT.lushr h hx rfl hd rfl k) K
theorem lcmp (h : At T m c below) (hx : p.tables.exec = Jvm.exec) (pc' : Nat) {x y : Int64} (hd : decode c.code pc = .ok (.lcmp, 1)) (hp : pc + 1 = pc')
    (K : Goes p e below Post (T.setTop (mkF m pc' ls (.int (XT.cmpL x y) :: st)))) : Goes p e below Post (T.setTop (mkF m pc ls (.long y :: .long x :: st))) := by
  subst hp; exact Goes.go (fun _ k => XT.lcmp h hx rfl hd rfl k) K
theorem idiv (h : At T m c below) (hx : p.tables.exec = Jvm.exec) (pc' : Nat) {x y : Int32} (hd : decode c.code pc = .ok (.idiv, 1)) (hy : y ≠ 0) (hp : pc + 1 = pc')
    (K : Goes p e below Post (T.setTop (mkF m pc' ls (.int (x / y) :: st)))) : Goes p e below Post (T.setTop (mkF m pc ls (.int y :: .int x :: st))) := by
  subst hp; exact Goes.go (fun _ k => XS.idiv h hx rfl hd rfl hy k) K
theorem irem (h : At T m c below) (hx : p.tables.exec = Jvm.exec) (pc' : Nat) {x y : Int32} (hd : decode c.code pc = .ok (.irem, 1)) (hy : y ≠ 0) (hp : pc + 1 = pc')
    (K : Goes p e below Post (T.setTop (mkF m pc' ls (.int (x % y) :: st)))) : Goes p e below Post (T.setTop (mkF m pc ls (.int y :: .int x :: st))) := by
  subst hp; exact Goes.go (fun _ k => XS.irem h hx rfl hd rfl hy (by rw [irem_eq_mod]; exact k)) K
theorem ineg (h : At T m c below) (hx : p.tables.exec = Jvm.exec) (pc' : Nat) {x : Int32} (hd : decode c.code pc = .ok (.ineg, 1)) (hp : pc + 1 = pc')
    (K : Goes p e below Post (T.setTop (mkF m pc' ls (.int (-x) :: st)))) : Goes p e below Post (T.setTop (mkF m pc ls (.int x :: st))) := by
  subst hp; exact Goes.go (fun _ k => XS.ineg h hx rfl hd rfl k) K
theorem lneg (h : At T m c below) (hx : p.tables.exec = Jvm.exec) (pc' : Nat) {x : Int64} (hd : decode c.code pc = .ok (.lneg, 1)) (hp : pc + 1 = pc')
    (K : Goes p e below Post (T.setTop (mkF m pc' ls (.long (-x) :: st)))) : Goes p e below Post (T.setTop (mkF m pc ls (.long x :: st))) := by
  subst hp; exact Goes.go (fun _ k => XT.lneg h hx rfl hd rfl k) K
theorem i2l (h : At T m c below) (hx : p.tables.exec = Jvm.exec) (pc' : Nat) {x : Int32} (hd : decode c.code pc = .ok (.i2l, 1)) (hp : pc + 1 = pc')
    (K : Goes p e below Post (T.setTop (mkF m pc' ls (.long x.toInt64 :: st)))) : Goes p e below Post (T.setTop (mkF m pc ls (.int x :: st))) := by
  subst hp; exact Goes.go (fun _ k => XT.i2l h hx rfl hd rfl k) K
theorem l2i (h : At T m c below) (hx : p.tables.exec = Jvm.exec) (pc' : Nat) {x : Int64} (hd : decode c.code pc = .ok (.l2i, 1)) (hp : pc + 1 = pc')
    (K : Goes p e below Post (T.setTop (mkF m pc' ls (.int x.toInt32 :: st)))) : Goes p e below Post (T.setTop (mkF m pc ls (.long x :: st))) := by
  subst hp; exact Goes.go (fun _ k => XT.l2i h hx rfl hd rfl k) K
theorem i2b (h : At T m c below) (hx : p.tables.exec = Jvm.exec) (pc' : Nat) {x : Int32} (hd : decode c.code pc = .ok (.i2b, 1)) (hp : pc + 1 = pc')
    (K : Goes p e below Post (T.setTop (mkF m pc' ls (.int (OwnKit.i2b x) :: st)))) : Goes p e below Post (T.setTop (mkF m pc ls (.int x :: st))) := by
  subst hp; exact Goes.go (fun _ k => XT.i2b h hx rfl hd rfl k) K
theorem i2c (h : At T m c below) (hx : p.tables.exec = Jvm.exec) (pc' : Nat) {x : Int32} (hd : decode c.code pc = .ok (.i2c, 1)) (hp : pc + 1 = pc')
    (K : Goes p e below Post (T.setTop (mkF m pc' ls (.int (OwnKit.i2c x) :: st)))) : Goes p e below Post (T.setTop (mkF m pc ls (.int x :: st))) := by
  subst hp; exact Goes.go (fun _ k => XT.i2c h hx rfl hd rfl k) K
theorem dup (h : At T m c below) (hx : p.tables.exec = Jvm.exec) (pc' : Nat) {x : Value} (hd : decode c.code pc = .ok (.dup, 1)) (hc : x.category = 1) (hp : pc + 1 = pc')
    (K : Goes p e below Post (T.setTop (mkF m pc' ls (x :: x :: st)))) : Goes p e below Post (T.setTop (mkF m pc ls (x :: st))) := by
  subst hp; exact Goes.go (fun _ k => XS.dup h hx rfl hd rfl hc k) K
theorem pop (h : At T m c below) (hx : p.tables.exec = Jvm.exec) (pc' : Nat) {x : Value} (hd : decode c.code pc = .ok (.pop, 1)) (hc : x.category = 1) (hp : pc + 1 = pc')
    (K : Goes p e below Post (T.setTop (mkF m pc' ls st))) : Goes p e below Post (T.setTop (mkF m pc ls (x :: st))) := by
  subst hp; exact Goes.go (fun _ k => XT.pop h hx rfl hd rfl hc k) K
theorem dupX1 (h : At T m c below) (hx : p.tables.exec = Jvm.exec) (pc' : Nat) {x y : Value} (hd : decode c.code pc = .ok (.dup_x1, 1)) (hc : x.category = 1) (hc' : y.category = 1) (hp : pc + 1 = pc')
    (K : Goes p e below Post (T.setTop (mkF m pc' ls (x :: y :: x :: st)))) : Goes p e below Post (T.setTop (mkF m pc ls (x :: y :: st))) := by
  subst hp; exact Goes.go (fun _ k => XT.dupX1 h hx rfl hd rfl hc hc' k) K
theorem dup2 (h : At T m c below) (hx : p.tables.exec = Jvm.exec) (pc' : Nat) {x y : Value} (hd : decode c.code pc = .ok (.dup2, 1)) (hc : x.category = 1) (hc' : y.category = 1) (hp : pc + 1 = pc')
    (K : Goes p e below Post (T.setTop (mkF m pc' ls (x :: y :: x :: y :: st)))) : Goes p e below Post (T.setTop (mkF m pc ls (x :: y :: st))) := by
  subst hp; exact Goes.go (fun _ k => XT.dup2 h hx rfl hd rfl hc hc' k) K
theorem iaddF (h : At T m c below) (hx : p.tables.exec = Jvm.exec) (pc' : Nat) (z : Int32) {x y : Int32} (hd : decode c.code pc = .ok (.iadd, 1)) (hz : x + y = z) (hp : pc + 1 = pc')
    (K : Goes p e below Post (T.setTop (mkF m pc' ls (.int z :: st)))) : Goes p e below Post (T.setTop (mkF m pc ls (.int y :: .int x :: st))) := by
  subst hz; exact iadd h hx pc' hd hp K
theorem isubF (h : At T m c below) (hx : p.tables.exec = Jvm.exec) (pc' : Nat) (z : Int32) {x y : Int32} (hd : decode c.code pc = .ok (.isub, 1)) (hz : x - y = z) (hp : pc + 1 = pc')
    (K : Goes p e below Post (T.setTop (mkF m pc' ls (.int z :: st)))) : Goes p e below Post (T.setTop (mkF m pc ls (.int y :: .int x :: st))) := by
  subst hz; exact isub h hx pc' hd hp K
theorem imulF (h : At T m c below) (hx : p.tables.exec = Jvm.exec) (pc' : Nat) (z : Int32) {x y : Int32} (hd : decode c.code pc = .ok (.imul, 1)) (hz : x * y = z) (hp : pc + 1 = pc')
    (K : Goes p e below Post (T.setTop (mkF m pc' ls (.int z :: st)))) : Goes p e below Post (T.setTop (mkF m pc ls (.int y :: .int x :: st))) := by
  subst hz; exact imul h hx pc' hd hp K
theorem iandF (h : At T m c below) (hx : p.tables.exec = Jvm.exec) (pc' : Nat) (z : Int32) {x y : Int32} (hd : decode c.code pc = .ok (.iand, 1)) (hz : x &&& y = z) (hp : pc + 1 = pc')
    (K : Goes p e below Post (T.setTop (mkF m pc' ls (.int z :: st)))) : Goes p e below Post (T.setTop (mkF m pc ls (.int y :: .int x :: st))) := by
  subst hz; exact iand h hx pc' hd hp K
theorem iorF (h : At T m c below) (hx : p.tables.exec = Jvm.exec) (pc' : Nat) (z : Int32) {x y : Int32} (hd : decode c.code pc = .ok (.ior, 1)) (hz : x ||| y = z) (hp : pc + 1 = pc')
    (K : Goes p e below Post (T.setTop (mkF m pc' ls (.int z :: st)))) : Goes p e below Post (T.setTop (mkF m pc ls (.int y :: .int x :: st))) := by
  subst hz; exact ior h hx pc' hd hp K
theorem ixorF (h : At T m c below) (hx : p.tables.exec = Jvm.exec) (pc' : Nat) (z : Int32) {x y : Int32} (hd : decode c.code pc = .ok (.ixor, 1)) (hz : x ^^^ y = z) (hp : pc + 1 = pc')
    (K : Goes p e below Post (T.setTop (mkF m pc' ls (.int z :: st)))) : Goes p e below Post (T.setTop (mkF m pc ls (.int y :: .int x :: st))) := by
  subst hz; exact ixor h hx pc' hd hp K
theorem ishlF (h : At T m c below) (hx : p.tables.exec = Jvm.exec) (pc' : Nat) (z : Int32) {x y : Int32} (hd : decode c.code pc = .ok (.ishl, 1)) (hz : x <<< (y &&& 31) = z) (hp : pc + 1 = pc')
    (K : Goes p e below Post (T.setTop (mkF m pc' ls (.int z :: st)))) : Goes p e below Post (T.setTop (mkF m pc ls (.int y :: .int x :: st))) := by
  subst hz; exact ishl h hx pc' hd hp K
theorem ishrF (h : At T m c below) (hx : p.tables.exec = Jvm.exec) (pc' : Nat) (z : Int32) {x y : Int32} (hd : decode c.code pc = .ok (.ishr, 1)) (hz : x >>> (y &&& 31) = z) (hp : pc + 1 = pc')
    (K : Goes p e below Post (T.setTop (mkF m pc' ls (.int z :: st)))) : Goes p e below Post (T.setTop (mkF m pc ls (.int y :: .int x :: st))) := by
  subst hz; exact ishr h hx pc' hd hp K
theorem iushrF (h : At T m c below) (hx : p.tables.exec = Jvm.exec) (pc' : Nat) (z : Int32) {x y : Int32} (hd : decode c.code pc = .ok (.iushr, 1)) (hz : XT.ushr x y = z) (hp : pc + 1 = pc')
    (K : Goes p e below Post (T.setTop (mkF m pc' ls (.int z :: st)))) : Goes p e below Post (T.setTop (mkF m pc ls (.int y :: .int x :: st))) := by
  subst hz; exact iushr h hx pc' hd hp K
theorem inegF (h : At T m c below) (hx : p.tables.exec = Jvm.exec) (pc' : Nat) (z : Int32) {x : Int32} (hd : decode c.code pc = .ok (.ineg, 1)) (hz : -x = z) (hp : pc + 1 = pc')
    (K : Goes p e below Post (T.setTop (mkF m pc' ls (.int z :: st)))) : Goes p e below Post (T.setTop (mkF m pc ls (.int x :: st))) := by
  subst hz; exact ineg h hx pc' hd hp K
theorem istore (h : At T m c below) (hx : p.tables.exec = Jvm.exec) (pc' : Nat) (l' : Int32 → Array Slot) {k : Nat} {x : Int32} (hd : decode c.code pc = .ok (.istore k, 2)) (hl : ∀ v, storeLocals ls k (.int v) = some (l' v)) (hp : pc + 2 = pc')
    (K : ∀ v, v = x → Goes p e below Post (T.setTop (mkF m pc' (l' v) st))) : Goes p e below Post (T.setTop (mkF m pc ls (.int x :: st))) := by
  subst hp; exact Goes.go (fun _ k => XS.istore h hx rfl hd rfl (hl x) k) (K x rfl)
theorem istoreN (h : At T m c below) (hx : p.tables.exec = Jvm.exec) (pc' : Nat) (l' : Int32 → Array Slot) {k : Fin 4} {x : Int32} (hd : decode c.code pc = .ok (.istore_n k, 1)) (hl : ∀ v, storeLocals ls k.val (.int v) = some (l' v)) (hp : pc + 1 = pc')
    (K : ∀ v, v = x → Goes p e below Post (T.setTop (mkF m pc' (l' v) st))) : Goes p e below Post (T.setTop (mkF m pc ls (.int x :: st))) := by
  subst hp; exact Goes.go (fun _ k => XS.istoreN h hx rfl hd rfl (hl x) k) (K x rfl)
theorem lstore (h : At T m c below) (hx : p.tables.exec = Jvm.exec) (pc' : Nat) (l' : Int64 → Array Slot) {k : Nat} {x : Int64} (hd : decode c.code pc = .ok (.lstore k, 2)) (hl : ∀ v, storeLocals ls k (.long v) = some (l' v)) (hp : pc + 2 = pc')
    (K : ∀ v, v = x → Goes p e below Post (T.setTop (mkF m pc' (l' v) st))) : Goes p e below Post (T.setTop (mkF m pc ls (.long x :: st))) := by
  subst hp; exact Goes.go (fun _ k => XT.lstore h hx rfl hd rfl (hl x) k) (K x rfl)
theorem lstoreN (h : At T m c below) (hx : p.tables.exec = Jvm.exec) (pc' : Nat) (l' : Int64 → Array Slot) {k : Fin 4} {x : Int64} (hd : decode c.code pc = .ok (.lstore_n k, 1)) (hl : ∀ v, storeLocals ls k.val (.long v) = some (l' v)) (hp : pc + 1 = pc')
    (K : ∀ v, v = x → Goes p e below Post (T.setTop (mkF m pc' (l' v) st))) : Goes p e below Post (T.setTop (mkF m pc ls (.long x :: st))) := by
  subst hp; exact Goes.go (fun _ k => XT.lstoreN h hx rfl hd rfl (hl x) k) (K x rfl)
theorem istoreX (h : At T m c below) (hx : p.tables.exec = Jvm.exec) (pc' : Nat) (l' : Array Slot) {k : Nat} {x : Int32} (hd : decode c.code pc = .ok (.istore k, 2)) (hl : storeLocals ls k (.int x) = some l') (hp : pc + 2 = pc')
    (K : Goes p e below Post (T.setTop (mkF m pc' l' st))) : Goes p e below Post (T.setTop (mkF m pc ls (.int x :: st))) := by
  subst hp; exact Goes.go (fun _ k => XS.istore h hx rfl hd rfl hl k) K
theorem istoreNX (h : At T m c below) (hx : p.tables.exec = Jvm.exec) (pc' : Nat) (l' : Array Slot) {k : Fin 4} {x : Int32} (hd : decode c.code pc = .ok (.istore_n k, 1)) (hl : storeLocals ls k.val (.int x) = some l') (hp : pc + 1 = pc')
    (K : Goes p e below Post (T.setTop (mkF m pc' l' st))) : Goes p e below Post (T.setTop (mkF m pc ls (.int x :: st))) := by
  subst hp; exact Goes.go (fun _ k => XS.istoreN h hx rfl hd rfl hl k) K
theorem lstoreX (h : At T m c below) (hx : p.tables.exec = Jvm.exec) (pc' : Nat) (l' : Array Slot) {k : Nat} {x : Int64} (hd : decode c.code pc = .ok (.lstore k, 2)) (hl : storeLocals ls k (.long x) = some l') (hp : pc + 2 = pc')
    (K : Goes p e below Post (T.setTop (mkF m pc' l' st))) : Goes p e below Post (T.setTop (mkF m pc ls (.long x :: st))) := by
  subst hp; exact Goes.go (fun _ k => XT.lstore h hx rfl hd rfl hl k) K
theorem lstoreNX (h : At T m c below) (hx : p.tables.exec = Jvm.exec) (pc' : Nat) (l' : Array Slot) {k : Fin 4} {x : Int64} (hd : decode c.code pc = .ok (.lstore_n k, 1)) (hl : storeLocals ls k.val (.long x) = some l') (hp : pc + 1 = pc')
    (K : Goes p e below Post (T.setTop (mkF m pc' l' st))) : Goes p e below Post (T.setTop (mkF m pc ls (.long x :: st))) := by
  subst hp; exact Goes.go (fun _ k => XT.lstoreN h hx rfl hd rfl hl k) K
theorem iincX (h : At T m c below) (hx : p.tables.exec = Jvm.exec) (pc' : Nat) (l' : Array Slot) {k : Nat} {cst : Int} {x : Int32} (hd : decode c.code pc = .ok (.iinc k cst, 3)) (hg : ls[k]? = some (.val (.int x))) (z : Int32) (hz : Int32.ofInt cst = z) (hl : storeLocals ls k (.int (x + z)) = some l') (hp : pc + 3 = pc')
    (K : Goes p e below Post (T.setTop (mkF m pc' l' st))) : Goes p e below Post (T.setTop (mkF m pc ls st)) := by
  subst hp hz; exact Goes.go (fun _ k => XS.iinc h hx rfl hd hg hl k) K
theorem astore (h : At T m c below) (hx : p.tables.exec = Jvm.exec) (pc' : Nat) (l' : Array Slot) {k : Nat} {x : Value} (hd : decode c.code pc = .ok (.astore k, 2)) (hv : x.isRef = true) (hl : storeLocals ls k x = some l') (hp : pc + 2 = pc')
    (K : Goes p e below Post (T.setTop (mkF m pc' l' st))) : Goes p e below Post (T.setTop (mkF m pc ls (x :: st))) := by
  subst hp; exact Goes.go (fun _ k => XS.astore h hx rfl hd rfl hv hl k) K
theorem astoreN (h : At T m c below) (hx : p.tables.exec = Jvm.exec) (pc' : Nat) (l' : Array Slot) {k : Fin 4} {x : Value} (hd : decode c.code pc = .ok (.astore_n k, 1)) (hv : x.isRef = true) (hl : storeLocals ls k.val x = some l') (hp : pc + 1 = pc')
    (K : Goes p e below Post (T.setTop (mkF m pc' l' st))) : Goes p e below Post (T.setTop (mkF m pc ls (x :: st))) := by
  subst hp; exact Goes.go (fun _ k => XS.astoreN h hx rfl hd rfl hv hl k) K
theorem iinc (h : At T m c below) (hx : p.tables.exec = Jvm.exec) (pc' : Nat) (l' : Int32 → Array Slot) {k : Nat} {cst : Int} {x : Int32} (hd : decode c.code pc = .ok (.iinc k cst, 3)) (hg : ls[k]? = some (.val (.int x))) (z : Int32) (hz : Int32.ofInt cst = z) (hl : ∀ v, storeLocals ls k (.int v) = some (l' v)) (hp : pc + 3 = pc')
    (K : ∀ v, v = x + z → Goes p e below Post (T.setTop (mkF m pc' (l' v) st))) : Goes p e below Post (T.setTop (mkF m pc ls st)) := by
  subst hp hz; exact Goes.go (fun _ k => XS.iinc h hx rfl hd hg (hl _) k) (K _ rfl)
theorem goto (h : At T m c below) (hx : p.tables.exec = Jvm.exec) (pc' : Nat) {o : Int} (hd : decode c.code pc = .ok (.goto o, 3)) (ho : 0 ≤ (pc : Int) + o) (hp : ((pc : Int) + o).toNat = pc')
    (K : Goes p e below Post (T.setTop (mkF m pc' ls st))) : Goes p e below Post (T.setTop (mkF m pc ls st)) := Goes.go (fun _ k => XS.goto h hx rfl (pc0 := pc) rfl hd ho hp k) K
theorem ifY (h : At T m c below) (hx : p.tables.exec = Jvm.exec) (pc' : Nat) {cd : ClassFile.Cond} {x : Int32} {o : Int} (hd : decode c.code pc = .ok (.ifCond cd o, 3)) (hc : ifCond.holds cd x = true) (ho : 0 ≤ (pc : Int) + o) (hp : ((pc : Int) + o).toNat = pc')
    (K : Goes p e below Post (T.setTop (mkF m pc' ls st))) : Goes p e below Post (T.setTop (mkF m pc ls (.int x :: st))) := Goes.go (fun _ k => XS.ifYes h hx rfl (pc0 := pc) rfl hd rfl hc ho hp k) K
theorem ifN (h : At T m c below) (hx : p.tables.exec = Jvm.exec) (pc' : Nat) {cd : ClassFile.Cond} {x : Int32} {o : Int} (hd : decode c.code pc = .ok (.ifCond cd o, 3)) (hc : ifCond.holds cd x = false) (hp : pc + 3 = pc')
    (K : Goes p e below Post (T.setTop (mkF m pc' ls st))) : Goes p e below Post (T.setTop (mkF m pc ls (.int x :: st))) := by
  subst hp; exact Goes.go (fun _ k => XS.ifNo h hx rfl hd rfl hc k) K
theorem icmpY (h : At T m c below) (hx : p.tables.exec = Jvm.exec) (pc' : Nat) {cd : ClassFile.Cond} {x y : Int32} {o : Int} (hd : decode c.code pc = .ok (.if_icmp cd o, 3)) (hc : if_icmp.holds cd x y = true) (ho : 0 ≤ (pc : Int) + o) (hp : ((pc : Int) + o).toNat = pc')
    (K : Goes p e below Post (T.setTop (mkF m pc' ls st))) : Goes p e below Post (T.setTop (mkF m pc ls (.int y :: .int x :: st))) := Goes.go (fun _ k => XS.icmpYes h hx rfl (pc0 := pc) rfl hd rfl hc ho hp k) K
theorem icmpN (h : At T m c below) (hx : p.tables.exec = Jvm.exec) (pc' : Nat) {cd : ClassFile.Cond} {x y : Int32} {o : Int} (hd : decode c.code pc = .ok (.if_icmp cd o, 3)) (hc : if_icmp.holds cd x y = false) (hp : pc + 3 = pc')
    (K : Goes p e below Post (T.setTop (mkF m pc' ls st))) : Goes p e below Post (T.setTop (mkF m pc ls (.int y :: .int x :: st))) := by
  subst hp; exact Goes.go (fun _ k => XS.icmpNo h hx rfl hd rfl hc k) K
theorem ifnullY (h : At T m c below) (hx : p.tables.exec = Jvm.exec) (pc' : Nat) {o : Int} (hd : decode c.code pc = .ok (.ifnull o, 3)) (ho : 0 ≤ (pc : Int) + o) (hp : ((pc : Int) + o).toNat = pc')
    (K : Goes p e below Post (T.setTop (mkF m pc' ls st))) : Goes p e below Post (T.setTop (mkF m pc ls (.null :: st))) := Goes.go (fun _ k => XS.ifnullYes h hx rfl (pc0 := pc) rfl hd rfl ho hp k) K
theorem ifnullN (h : At T m c below) (hx : p.tables.exec = Jvm.exec) (pc' : Nat) {b : Addr} {o : Int} (hd : decode c.code pc = .ok (.ifnull o, 3)) (hp : pc + 3 = pc')
    (K : Goes p e below Post (T.setTop (mkF m pc' ls st))) : Goes p e below Post (T.setTop (mkF m pc ls (.ref b :: st))) := by
  subst hp; exact Goes.go (fun _ k => XS.ifnullNo h hx rfl hd rfl k) K
theorem ifnonnullY (h : At T m c below) (hx : p.tables.exec = Jvm.exec) (pc' : Nat) {b : Addr} {o : Int} (hd : decode c.code pc = .ok (.ifnonnull o, 3)) (ho : 0 ≤ (pc : Int) + o) (hp : ((pc : Int) + o).toNat = pc')
    (K : Goes p e below Post (T.setTop (mkF m pc' ls st))) : Goes p e below Post (T.setTop (mkF m pc ls (.ref b :: st))) := Goes.go (fun _ k => XT.ifnonnullYes h hx rfl (pc0 := pc) rfl hd rfl ho hp k) K
theorem ifnonnullN (h : At T m c below) (hx : p.tables.exec = Jvm.exec) (pc' : Nat) {o : Int} (hd : decode c.code pc = .ok (.ifnonnull o, 3)) (hp : pc + 3 = pc')
    (K : Goes p e below Post (T.setTop (mkF m pc' ls st))) : Goes p e below Post (T.setTop (mkF m pc ls (.null :: st))) := by
  subst hp; exact Goes.go (fun _ k => XT.ifnonnullNo h hx rfl hd rfl k) K
theorem acmpY (h : At T m c below) (hx : p.tables.exec = Jvm.exec) (pc' : Nat) {cd : ClassFile.ACond} {x y : Value} {o : Int} (hd : decode c.code pc = .ok (.if_acmp cd o, 3)) (h1 : x.isRef = true) (h2 : y.isRef = true) (hc : XT.acmp cd x y = true) (ho : 0 ≤ (pc : Int) + o) (hp : ((pc : Int) + o).toNat = pc')
    (K : Goes p e below Post (T.setTop (mkF m pc' ls st))) : Goes p e below Post (T.setTop (mkF m pc ls (y :: x :: st))) := Goes.go (fun _ k => XT.acmpYes h hx rfl (pc0 := pc) rfl hd rfl h1 h2 hc ho hp k) K
theorem acmpN (h : At T m c below) (hx : p.tables.exec = Jvm.exec) (pc' : Nat) {cd : ClassFile.ACond} {x y : Value} {o : Int} (hd : decode c.code pc = .ok (.if_acmp cd o, 3)) (h1 : x.isRef = true) (h2 : y.isRef = true) (hc : XT.acmp cd x y = false) (hp : pc + 3 = pc')
    (K : Goes p e below Post (T.setTop (mkF m pc' ls st))) : Goes p e below Post (T.setTop (mkF m pc ls (y :: x :: st))) := by
  subst hp; exact Goes.go (fun _ k => XT.acmpNo h hx rfl hd rfl h1 h2 hc k) K
theorem ifnullV (h : At T m c below) (hx : p.tables.exec = Jvm.exec) (pc' pn : Nat) {v : Value} (hv : v.isRef = true) {o : Int} (hd : decode c.code pc = .ok (.ifnull o, 3)) (ho : 0 ≤ (pc : Int) + o) (hp : ((pc : Int) + o).toNat = pc') (hq : pc + 3 = pn)
    (KY : v = .null → Goes p e below Post (T.setTop (mkF m pc' ls st))) (KN : ¬ v = .null → Goes p e below Post (T.setTop (mkF m pn ls st))) : Goes p e below Post (T.setTop (mkF m pc ls (v :: st))) := by
  subst hq
  rcases ref_cases hv with hv0 | ⟨b, hv0⟩
  · subst hv0; exact Goes.go (fun _ k => XS.ifnullYes h hx rfl (pc0 := pc) rfl hd rfl ho hp k) (KY rfl)
  · subst hv0; exact Goes.go (fun _ k => XS.ifnullNo h hx rfl hd rfl k) (KN (fun q => nomatch q))
theorem ifnonnullV (h : At T m c below) (hx : p.tables.exec = Jvm.exec) (pc' pn : Nat) {v : Value} (hv : v.isRef = true) {o : Int} (hd : decode c.code pc = .ok (.ifnonnull o, 3)) (ho : 0 ≤ (pc : Int) + o) (hp : ((pc : Int) + o).toNat = pc') (hq : pc + 3 = pn)
    (KY : ¬ v = .null → Goes p e below Post (T.setTop (mkF m pc' ls st))) (KN : v = .null → Goes p e below Post (T.setTop (mkF m pn ls st))) : Goes p e below Post (T.setTop (mkF m pc ls (v :: st))) := by
  subst hq
  rcases ref_cases hv with hv0 | ⟨b, hv0⟩
  · subst hv0; exact Goes.go (fun _ k => XT.ifnonnullNo h hx rfl hd rfl k) (KN rfl)
  · subst hv0; exact Goes.go (fun _ k => XT.ifnonnullYes h hx rfl (pc0 := pc) rfl hd rfl ho hp k) (KY (fun q => nomatch q))
end G
end Goes
end Jvm.OwnKit
namespace Jvm.OwnKit
open Sem ClassFile Op Lib Jvm.Stand Jvm.Free Jvm.LawKit Jvm.RoadKit
theorem ext_refl (h : Heap) : Ext h h := ⟨Nat.le_refl _, fun _ _ q => q⟩
theorem ext_trans {h h' h'' : Heap} (A : Ext h h') (B : Ext h' h'') : Ext h h'' := ⟨Nat.le_trans A.1 B.1, fun x c q => B.2 x c (A.2 x c q)⟩
theorem ext_keep {h h' : Heap} (E : Ext h h') (ws : List Addr) : Keep h h' ws := (Keep.refl h ws).ext E
theorem keep_ext {h h' : Heap} {ws : List Addr} (K : Keep h h' ws) (q : ∀ x ∈ ws, h.size ≤ x) : Ext h h' :=
  ⟨K.1, fun x c hx => K.2.1 x c hx fun z => absurd (Array.getElem?_eq_some_iff.mp hx).1 (Nat.not_lt.mpr (q x z))⟩
theorem keep_nil {h h' : Heap} (K : Keep h h' []) : Ext h h' := keep_ext K fun _ q => nomatch q
theorem keep_one {h h' : Heap} {a : Addr} (K : Keep h h' [a]) (q : h.size ≤ a) : Ext h h' := keep_ext K fun x hx => by cases List.mem_singleton.mp hx; exact q
/-- where the walk of a body stands: its start's heap h0, what it may write of it (ws), the tables' base vm0, the state, the heap -/
def Wk (p : Program) (l : Launch) (e : Env) (R : Room) (s : State) (m : MethodId) (args : Array Value) (below : List Frame) (meth : Method) (c : Code) (Z : State) (EL : List (String × Nat)) (h0 : Heap) (ws : List Addr) (vm0 : Vm) (T : State) (h : Heap) (cells slots : Nat) : Prop :=
  ∃ locs, Stand p l e R (s.setVm vm0) m args below meth c T locs cells slots ∧ Fr Z.heap.size locs ∧ T.heap = h ∧ Keep h0 h ws ∧ s.heap = h0 ∧ Ext Z.heap h0 ∧ (∀ x ∈ ws, Z.heap.size ≤ x) ∧ Z.Warmed39 vm0 ∧ (∃ k0, s.Since vm0 k0 ∧ k0 ≤ h.size) ∧ CHr Z EL s.vm h0 vm0 h
section Wk
variable {p : Program} {l : Launch} {e : Env} {R : Room} {s : State} {m : MethodId} {args : Array Value} {below : List Frame} {meth : Method} {c : Code} {Z : State} {EL : List (String × Nat)} {h0 : Heap} {ws : List Addr} {vm0 : Vm} {T : State} {h : Heap} {cells slots : Nat} {a0 : Array Value} {Post : Outcome → State → Prop} {pc : Nat} {ls : Array Slot} {st rest : List Value} {own : String}
theorem Wk.here (W : Wk p l e R s m args below meth c Z EL h0 ws vm0 T h cells slots) : At T m c below := by obtain ⟨_, X, _⟩ := W; exact X.here
theorem Wk.warm (W : Wk p l e R s m args below meth c Z EL h0 ws vm0 T h cells slots) : Z.Warmed39 vm0 := by obtain ⟨_, _, _, _, _, _, _, _, q, _⟩ := W; exact q
theorem Wk.alike (W : Wk p l e R s m args below meth c Z EL h0 ws vm0 T h cells slots) : Z.vm.Alike vm0 := W.warm.alike
theorem Wk.chr (W : Wk p l e R s m args below meth c Z EL h0 ws vm0 T h cells slots) : CHr Z EL s.vm h0 vm0 h := by obtain ⟨_, _, _, _, _, _, _, _, _, _, q⟩ := W; exact q
theorem Wk.ch (W : Wk p l e R s m args below meth c Z EL h0 ws vm0 T h cells slots) : CHv Z EL vm0 h := W.chr.1
theorem Wk.keeps (W : Wk p l e R s m args below meth c Z EL h0 ws vm0 T h cells slots) : Keep h0 h ws := by obtain ⟨_, _, _, _, q, _⟩ := W; exact q
theorem Wk.size (W : Wk p l e R s m args below meth c Z EL h0 ws vm0 T h cells slots) : h0.size ≤ h.size := W.keeps.1
theorem Wk.zsize (W : Wk p l e R s m args below meth c Z EL h0 ws vm0 T h cells slots) : Z.heap.size ≤ h0.size := by obtain ⟨_, _, _, _, _, _, q, _⟩ := W; exact q.1
theorem Wk.mono (W : Wk p l e R s m args below meth c Z EL h0 ws vm0 T h cells slots) {cells' slots' : Nat} (hc : cells ≤ cells') (hn : slots ≤ slots') : Wk p l e R s m args below meth c Z EL h0 ws vm0 T h cells' slots' := by
  obtain ⟨locs, X, r⟩ := W; exact ⟨locs, X.mono hc hn, r⟩
theorem Wk.old (W : Wk p l e R s m args below meth c Z EL h0 ws vm0 T h cells slots) : Ext Z.heap h := by
  obtain ⟨_, _, _, _, K, _, E, hws, _⟩ := W
  exact ⟨Nat.le_trans E.1 K.1, fun x cl q => K.2.1 x cl (E.2 x cl q) fun z => absurd (Array.getElem?_eq_some_iff.mp q).1 (Nat.not_lt.mpr (hws x z))⟩
theorem Wk.wown (W : Wk p l e R s m args below meth c Z EL h0 ws vm0 T h cells slots) (ho : Z.vm.findClass own = some m.cls) : (s.setVm vm0).vm.findClass own = some m.cls := by
  show vm0.findClass own = some m.cls
  rw [W.alike.findClass]; exact ho
theorem Wk.may (W : Wk p l e R s m args below meth c Z EL h0 ws vm0 T h cells slots) {a : Addr} (q : a ∈ ws ∨ h0.size ≤ a) : Z.heap.size ≤ a := by
  obtain ⟨_, _, _, _, _, _, E, hws, _⟩ := W
  exact q.elim (hws a) fun r => Nat.le_trans E.1 r
theorem Wk.grown (W : Wk p l e R s m args below meth c Z EL h0 ws vm0 T h cells slots) {T' : State} {h' : Heap} {k n : Nat} (X' : ∀ locs, Stand p l e R (s.setVm vm0) m args below meth c T locs cells slots → Stand p l e R (s.setVm vm0) m args below meth c T' locs k n) (e' : T'.heap = h') (E : Ext h h') : Wk p l e R s m args below meth c Z EL h0 ws vm0 T' h' k n := by
  obtain ⟨locs, X, N, eh, K, es, O, hws, hZ, ⟨k0, hS, hk⟩, C⟩ := W
  exact ⟨locs, X' locs X, N, e', K.ext E, es, O, hws, hZ, ⟨k0, hS, Nat.le_trans hk E.1⟩, C.trans (CHr.ext E C.1)⟩
theorem Wk.newO (W : Wk p l e R s m args below meth c Z EL h0 ws vm0 T h cells slots) (hx : p.tables.exec = Jvm.exec) (ho : Z.vm.findClass own = some m.cls) {C : String} {index n : Nat} (w : (Cond.classLink own index C).before a0 Z = true) (wi : (Cond.instantiable C n).before a0 Z = true) (wz : (Cond.initialized C).before a0 Z = true)
    (pc' : Nat) (hd : decode c.code pc = .ok (.new index, 3)) (hp : pc + 3 = pc') (hc : cells + 1 ≤ R.cells) (hl : slots + n ≤ R.slots)
    (K : ∀ (T' : State) (h' : Heap) (a : Addr), Wk p l e R s m args below meth c Z EL h0 ws vm0 T' h' (cells + 1) (slots + n) → Ext h h' → a = h.size → Exa Z h' a C → (∀ {O nm d : String} {ty : FieldType}, Laid Z a0 C O nm d → parseFieldDescriptor d = some ty → Fld Z h' a O nm d (defaultValue ty)) → Safe Z EL vm0 h' a → Goes p e below Post (T'.setTop (mkF m pc' ls (.ref a :: st)))) : Goes p e below Post (T.setTop (mkF m pc ls st)) := by
  subst hp
  have ho' := W.wown ho
  have W0 := W
  obtain ⟨locs, X, N, eh, K0, es, O, hws, hZ, ⟨k0, hS, hk⟩, C⟩ := W
  obtain ⟨T', h', X', e', E, A, D, -, stp⟩ := RoadKit.newO X hx hZ ho' w wi wz eh (g := mkF m pc ls st) rfl hd hc hl
  exact Goes.go stp (K T' h' _ ⟨locs, X', N, e', K0.ext E, es, O, hws, hZ, ⟨k0, hS, Nat.le_trans hk E.1⟩, C.trans (CHr.ext E C.1)⟩ E rfl A D fun B => Safe.new (Nat.le_refl _) ((C.1.step fun _ _ _ q => E.2 _ _ q).2 _ B))
theorem Wk.newP (W : Wk p l e R s m args below meth c Z EL h0 ws vm0 T h cells slots) (hx : p.tables.exec = Jvm.exec) {aty : ArrayType} (w : (Cond.arrayClass (newarray.typeOf aty)).before a0 Z = true)
    (pc' : Nat) (hd : decode c.code pc = .ok (.newarray aty, 2)) {n : Int32} (hn : ¬ n < 0) (cap : Nat) (hcap : n.toNatClampNeg ≤ cap) (hp : pc + 2 = pc') (hb : cap * 8 ≤ 536870912) (hc : cells + 1 ≤ R.cells) (hl : slots + cap ≤ R.slots)
    (K : ∀ (T' : State) (h' : Heap) (a : Addr) (k : ClassId), Wk p l e R s m args below meth c Z EL h0 ws vm0 T' h' (cells + 1) (slots + cap) → Ext h h' → a = h.size → Arv Z h' a k (newarray.typeOf aty) n (List.replicate cap (defaultValue (newarray.typeOf aty))) (defaultValue (newarray.typeOf aty)) → Safe Z EL vm0 h' a → Goes p e below Post (T'.setTop (mkF m pc' ls (.ref a :: st)))) : Goes p e below Post (T.setTop (mkF m pc ls (.int n :: st))) := by
  subst hp
  obtain ⟨locs, X, N, eh, K0, es, O, hws, hZ, ⟨k0, hS, hk⟩, C⟩ := W
  obtain ⟨T', h', cA, X', e', E, A, stp⟩ := RoadKit.newP X hx hZ w eh (g := mkF m pc ls (.int n :: st)) rfl hd rfl hn hcap hb hc hl
  exact Goes.go stp (K T' h' _ cA ⟨locs, X', N, e', K0.ext E, es, O, hws, hZ, ⟨k0, hS, Nat.le_trans hk E.1⟩, C.trans (CHr.ext E C.1)⟩ E rfl ((Arv.new A hn).pad (pad_rep [] _ cap)) fun B => Safe.new (Nat.le_refl _) ((C.1.step fun _ _ _ q => E.2 _ _ q).2 _ B))
theorem Wk.castore (W : Wk p l e R s m args below meth c Z EL h0 ws vm0 T h cells slots) (hx : p.tables.exec = Jvm.exec) {a : Addr} {k : ClassId} {n : Int32} {vs : List Value} {d : Value} (V : Arv Z h a k .char n vs d) (ha : a ∈ ws ∨ h0.size ≤ a) {j : Int32} {x : Int32} (x' : Int32) (hn : nar .char x = x') (i : Nat) (hj : j.toNatClampNeg = i) (hin : ¬ j < 0 ∧ j < n) (hi : i < vs.length)
    (pc' : Nat) (hd : decode c.code pc = .ok (.castore, 1)) (hp : pc + 1 = pc')
    (K : ∀ (T' : State) (h' : Heap), Wk p l e R s m args below meth c Z EL h0 ws vm0 T' h' cells slots → Keep h h' [a] → CHr Z EL vm0 h vm0 h' → Arv Z h' a k .char n (vs.set i (.int x')) d → Goes p e below Post (T'.setTop (mkF m pc' ls st))) : Goes p e below Post (T.setTop (mkF m pc ls (.int x :: .int j :: .ref a :: st))) := by
  subst hp
  have hza := W.may ha
  obtain ⟨locs, X, N, eh, K0, es, O, hws, hZ, ⟨k0, hS, hk⟩, C⟩ := W
  obtain ⟨cl, A, q1, S, q3, H, G⟩ := V
  obtain ⟨T', h', X', e', Wr', stp⟩ := RoadKit.stC X hx hZ eh A (j := j) (inb_of S hin) (g := mkF m pc ls (.int x :: .int j :: .ref a :: st)) rfl rfl hd
  rw [show nar .char x = x' from hn] at Wr'
  have C1 := CHr.wr Wr' (Safe.arr hZ.alike A (by intro q; cases q)) C.1
  exact Goes.go stp (K T' h' ⟨_, X', Fr.snoc X' N hza, e', K0.wr Wr' ha, es, O, hws, hZ, ⟨k0, hS, Nat.le_trans hk (Keep.of_wr Wr').1⟩, C.trans C1⟩ (Keep.of_wr Wr') C1 (Arv.set A q1 S q3 H G (by rw [← hn]; exact fits_nar_char _) Wr' i hj hi))
theorem Wk.iastore (W : Wk p l e R s m args below meth c Z EL h0 ws vm0 T h cells slots) (hx : p.tables.exec = Jvm.exec) {a : Addr} {k : ClassId} {n : Int32} {vs : List Value} {d : Value} (V : Arv Z h a k .int n vs d) (ha : a ∈ ws ∨ h0.size ≤ a) {j : Int32} {x : Int32} (x' : Int32) (hn : x = x') (i : Nat) (hj : j.toNatClampNeg = i) (hin : ¬ j < 0 ∧ j < n) (hi : i < vs.length)
    (pc' : Nat) (hd : decode c.code pc = .ok (.iastore, 1)) (hp : pc + 1 = pc')
    (K : ∀ (T' : State) (h' : Heap), Wk p l e R s m args below meth c Z EL h0 ws vm0 T' h' cells slots → Keep h h' [a] → CHr Z EL vm0 h vm0 h' → Arv Z h' a k .int n (vs.set i (.int x')) d → Goes p e below Post (T'.setTop (mkF m pc' ls st))) : Goes p e below Post (T.setTop (mkF m pc ls (.int x :: .int j :: .ref a :: st))) := by
  subst hp
  have hza := W.may ha
  obtain ⟨locs, X, N, eh, K0, es, O, hws, hZ, ⟨k0, hS, hk⟩, C⟩ := W
  obtain ⟨cl, A, q1, S, q3, H, G⟩ := V
  obtain ⟨T', h', X', e', Wr', stp⟩ := RoadKit.stI X hx hZ eh A (j := j) (inb_of S hin) (g := mkF m pc ls (.int x :: .int j :: .ref a :: st)) rfl rfl hd
  rw [show x = x' from hn] at Wr'
  have C1 := CHr.wr Wr' (Safe.arr hZ.alike A (by intro q; cases q)) C.1
  exact Goes.go stp (K T' h' ⟨_, X', Fr.snoc X' N hza, e', K0.wr Wr' ha, es, O, hws, hZ, ⟨k0, hS, Nat.le_trans hk (Keep.of_wr Wr').1⟩, C.trans C1⟩ (Keep.of_wr Wr') C1 (Arv.set A q1 S q3 H G (rfl) Wr' i hj hi))
theorem Wk.lastore (W : Wk p l e R s m args below meth c Z EL h0 ws vm0 T h cells slots) (hx : p.tables.exec = Jvm.exec) {a : Addr} {k : ClassId} {n : Int32} {vs : List Value} {d : Value} (V : Arv Z h a k .long n vs d) (ha : a ∈ ws ∨ h0.size ≤ a) {j : Int32} {x : Int64} (x' : Int64) (hn : x = x') (i : Nat) (hj : j.toNatClampNeg = i) (hin : ¬ j < 0 ∧ j < n) (hi : i < vs.length)
    (pc' : Nat) (hd : decode c.code pc = .ok (.lastore, 1)) (hp : pc + 1 = pc')
    (K : ∀ (T' : State) (h' : Heap), Wk p l e R s m args below meth c Z EL h0 ws vm0 T' h' cells slots → Keep h h' [a] → CHr Z EL vm0 h vm0 h' → Arv Z h' a k .long n (vs.set i (.long x')) d → Goes p e below Post (T'.setTop (mkF m pc' ls st))) : Goes p e below Post (T.setTop (mkF m pc ls (.long x :: .int j :: .ref a :: st))) := by
  subst hp
  have hza := W.may ha
  obtain ⟨locs, X, N, eh, K0, es, O, hws, hZ, ⟨k0, hS, hk⟩, C⟩ := W
  obtain ⟨cl, A, q1, S, q3, H, G⟩ := V
  obtain ⟨T', h', X', e', Wr', stp⟩ := RoadKit.stJ X hx hZ eh A (j := j) (inb_of S hin) (g := mkF m pc ls (.long x :: .int j :: .ref a :: st)) rfl rfl hd
  rw [show x = x' from hn] at Wr'
  have C1 := CHr.wr Wr' (Safe.arr hZ.alike A (by intro q; cases q)) C.1
  exact Goes.go stp (K T' h' ⟨_, X', Fr.snoc X' N hza, e', K0.wr Wr' ha, es, O, hws, hZ, ⟨k0, hS, Nat.le_trans hk (Keep.of_wr Wr').1⟩, C.trans C1⟩ (Keep.of_wr Wr') C1 (Arv.set A q1 S q3 H G (rfl) Wr' i hj hi))
theorem Wk.bastore (W : Wk p l e R s m args below meth c Z EL h0 ws vm0 T h cells slots) (hx : p.tables.exec = Jvm.exec) {a : Addr} {k : ClassId} {n : Int32} {vs : List Value} {d : Value} (V : Arv Z h a k .byte n vs d) (ha : a ∈ ws ∨ h0.size ≤ a) (sf : Safe Z EL vm0 h a) {j : Int32} {x : Int32} (x' : Int32) (hn : nar .byte x = x') (i : Nat) (hj : j.toNatClampNeg = i) (hin : ¬ j < 0 ∧ j < n) (hi : i < vs.length)
    (pc' : Nat) (hd : decode c.code pc = .ok (.bastore, 1)) (hp : pc + 1 = pc')
    (K : ∀ (T' : State) (h' : Heap), Wk p l e R s m args below meth c Z EL h0 ws vm0 T' h' cells slots → Keep h h' [a] → CHr Z EL vm0 h vm0 h' → Arv Z h' a k .byte n (vs.set i (.int x')) d → Goes p e below Post (T'.setTop (mkF m pc' ls st))) : Goes p e below Post (T.setTop (mkF m pc ls (.int x :: .int j :: .ref a :: st))) := by
  subst hp
  have hza := W.may ha
  obtain ⟨locs, X, N, eh, K0, es, O, hws, hZ, ⟨k0, hS, hk⟩, C⟩ := W
  obtain ⟨cl, A, q1, S, q3, H, G⟩ := V
  obtain ⟨T', h', X', e', Wr', stp⟩ := RoadKit.stB X hx hZ eh A (j := j) (inb_of S hin) (g := mkF m pc ls (.int x :: .int j :: .ref a :: st)) rfl rfl hd
  rw [show nar .byte x = x' from hn] at Wr'
  have C1 := CHr.wr Wr' sf C.1
  exact Goes.go stp (K T' h' ⟨_, X', Fr.snoc X' N hza, e', K0.wr Wr' ha, es, O, hws, hZ, ⟨k0, hS, Nat.le_trans hk (Keep.of_wr Wr').1⟩, C.trans C1⟩ (Keep.of_wr Wr') C1 (Arv.set A q1 S q3 H G (by rw [← hn]; exact fits_nar_byte _) Wr' i hj hi))
theorem Wk.caload (W : Wk p l e R s m args below meth c Z EL h0 ws vm0 T h cells slots) (hx : p.tables.exec = Jvm.exec) {a : Addr} {k : ClassId} {n : Int32} {vs : List Value} {d : Value} (V : Arv Z h a k .char n vs d) {j : Int32} (hin : ¬ j < 0 ∧ j < n) (v : Value) (hv : vs.getD j.toNatClampNeg d = v)
    (pc' : Nat) (hd : decode c.code pc = .ok (.caload, 1)) (hp : pc + 1 = pc') (K : Goes p e below Post (T.setTop (mkF m pc' ls (v :: st)))) : Goes p e below Post (T.setTop (mkF m pc ls (.int j :: .ref a :: st))) := by
  subst hp
  obtain ⟨locs, X, N, eh, K0, es, O, hws, hZ, -, C⟩ := W
  obtain ⟨cl, A, q1, S, q3, H, G⟩ := V
  exact Goes.go (fun tg k => X.caload hx (j := j) (v := v) (by rw [eh]; exact A.1) (State.isArrayOf_alike hZ.alike A.2.1) A.2.2 (inb_of S hin) (H.at (inb_of S hin) hv) (g := mkF m pc ls (.int j :: .ref a :: st)) rfl rfl hd tg k) K
theorem Wk.iaload (W : Wk p l e R s m args below meth c Z EL h0 ws vm0 T h cells slots) (hx : p.tables.exec = Jvm.exec) {a : Addr} {k : ClassId} {n : Int32} {vs : List Value} {d : Value} (V : Arv Z h a k .int n vs d) {j : Int32} (hin : ¬ j < 0 ∧ j < n) (v : Value) (hv : vs.getD j.toNatClampNeg d = v)
    (pc' : Nat) (hd : decode c.code pc = .ok (.iaload, 1)) (hp : pc + 1 = pc') (K : Goes p e below Post (T.setTop (mkF m pc' ls (v :: st)))) : Goes p e below Post (T.setTop (mkF m pc ls (.int j :: .ref a :: st))) := by
  subst hp
  obtain ⟨locs, X, N, eh, K0, es, O, hws, hZ, -, C⟩ := W
  obtain ⟨cl, A, q1, S, q3, H, G⟩ := V
  exact Goes.go (fun tg k => X.iaload hx (j := j) (v := v) (by rw [eh]; exact A.1) (State.isArrayOf_alike hZ.alike A.2.1) A.2.2 (inb_of S hin) (H.at (inb_of S hin) hv) (g := mkF m pc ls (.int j :: .ref a :: st)) rfl rfl hd tg k) K
theorem Wk.laload (W : Wk p l e R s m args below meth c Z EL h0 ws vm0 T h cells slots) (hx : p.tables.exec = Jvm.exec) {a : Addr} {k : ClassId} {n : Int32} {vs : List Value} {d : Value} (V : Arv Z h a k .long n vs d) {j : Int32} (hin : ¬ j < 0 ∧ j < n) (v : Value) (hv : vs.getD j.toNatClampNeg d = v)
    (pc' : Nat) (hd : decode c.code pc = .ok (.laload, 1)) (hp : pc + 1 = pc') (K : Goes p e below Post (T.setTop (mkF m pc' ls (v :: st)))) : Goes p e below Post (T.setTop (mkF m pc ls (.int j :: .ref a :: st))) := by
  subst hp
  obtain ⟨locs, X, N, eh, K0, es, O, hws, hZ, -, C⟩ := W
  obtain ⟨cl, A, q1, S, q3, H, G⟩ := V
  exact Goes.go (fun tg k => X.laload hx (j := j) (v := v) (by rw [eh]; exact A.1) (State.isArrayOf_alike hZ.alike A.2.1) A.2.2 (inb_of S hin) (H.at (inb_of S hin) hv) (g := mkF m pc ls (.int j :: .ref a :: st)) rfl rfl hd tg k) K
theorem Wk.baload (W : Wk p l e R s m args below meth c Z EL h0 ws vm0 T h cells slots) (hx : p.tables.exec = Jvm.exec) {a : Addr} {k : ClassId} {n : Int32} {vs : List Value} {d : Value} (V : Arv Z h a k .byte n vs d) {j : Int32} (hin : ¬ j < 0 ∧ j < n) (v : Value) (hv : vs.getD j.toNatClampNeg d = v)
    (pc' : Nat) (hd : decode c.code pc = .ok (.baload, 1)) (hp : pc + 1 = pc') (K : Goes p e below Post (T.setTop (mkF m pc' ls (v :: st)))) : Goes p e below Post (T.setTop (mkF m pc ls (.int j :: .ref a :: st))) := by
  subst hp
  obtain ⟨locs, X, N, eh, K0, es, O, hws, hZ, -, C⟩ := W
  obtain ⟨cl, A, q1, S, q3, H, G⟩ := V
  exact Goes.go (fun tg k => X.baloadBytes hx (j := j) (v := v) (by rw [eh]; exact A.1) (State.isArrayOf_alike hZ.alike A.2.1) A.2.2 (inb_of S hin) (H.at (inb_of S hin) hv) (g := mkF m pc ls (.int j :: .ref a :: st)) rfl rfl hd tg k) K
theorem Wk.arraylength (W : Wk p l e R s m args below meth c Z EL h0 ws vm0 T h cells slots) (hx : p.tables.exec = Jvm.exec) {a : Addr} {k : ClassId} {ty : FieldType} {n : Int32} {vs : List Value} {d : Value} (V : Arv Z h a k ty n vs d)
    (pc' : Nat) (hd : decode c.code pc = .ok (.arraylength, 1)) (hp : pc + 1 = pc') (K : Goes p e below Post (T.setTop (mkF m pc' ls (.int n :: st)))) : Goes p e below Post (T.setTop (mkF m pc ls (.ref a :: st))) := by
  subst hp
  obtain ⟨locs, X, N, eh, K0, es, O, hws, hZ, -, C⟩ := W
  obtain ⟨cl, A, q1, S, q3, H, G⟩ := V
  refine Goes.go (fun tg k => X.arraylength hx (by rw [eh]; exact A.1) (State.isArrayOf_alike hZ.alike A.2.1) (g := mkF m pc ls (.ref a :: st)) rfl rfl hd tg ?_) K
  rw [len_of S q3]; exact k
theorem Wk.getF (W : Wk p l e R s m args below meth c Z EL h0 ws vm0 T h cells slots) (hx : p.tables.exec = Jvm.exec) (ho : Z.vm.findClass own = some m.cls) {R0 O n d host : String} {index : Nat} (w : (Cond.fieldLink own index R0 n d).before a0 Z = true ∨ (Cond.fieldLinkNest own index R0 n d host).before a0 Z = true) (via : Via Z R0 O n d)
    {a : Addr} {v : Value} (F : Fld Z h a O n d v) (pc' : Nat) (hd : decode c.code pc = .ok (.getfield index, 3)) (hp : pc + 3 = pc')
    (K : ∀ (T' : State), Wk p l e R s m args below meth c Z EL h0 ws vm0 T' h cells slots → Goes p e below Post (T'.setTop (mkF m pc' ls (v :: st)))) : Goes p e below Post (T.setTop (mkF m pc ls (.ref a :: st))) := by
  subst hp
  have ho' := W.wown ho
  obtain ⟨locs, X, N, eh, r⟩ := W
  obtain ⟨hK0, hes, hO, hws, hZ, r2⟩ := r
  obtain ⟨T', X', e', stp⟩ := RoadKit.getF X hx hZ ho' w via eh F (g := mkF m pc ls (.ref a :: st)) rfl rfl hd
  exact Goes.go stp (K T' ⟨locs, X', N, e', hK0, hes, hO, hws, hZ, r2⟩)
theorem Wk.getS (W : Wk p l e R s m args below meth c Z EL h0 ws vm0 T h cells slots) (hx : p.tables.exec = Jvm.exec) (ho : Z.vm.findClass own = some m.cls) {R0 O n d : String} {index : Nat} (w : (Cond.fieldLink own index R0 n d).before a0 Z = true) (via : Via Z R0 O n d)
    {v : Value} (F : Sta Z h O n d v) (pc' : Nat) (hd : decode c.code pc = .ok (.getstatic index, 3)) (hp : pc + 3 = pc')
    (K : ∀ (T' : State), Wk p l e R s m args below meth c Z EL h0 ws vm0 T' h cells slots → Goes p e below Post (T'.setTop (mkF m pc' ls (v :: st)))) : Goes p e below Post (T.setTop (mkF m pc ls st)) := by
  subst hp
  have ho' := W.wown ho
  obtain ⟨locs, X, N, eh, r⟩ := W
  obtain ⟨hK0, hes, hO, hws, hZ, r2⟩ := r
  obtain ⟨T', X', e', stp⟩ := RoadKit.getS (host := "") X hx hZ ho' w via eh F (g := mkF m pc ls st) rfl hd
  exact Goes.go stp (K T' ⟨locs, X', N, e', hK0, hes, hO, hws, hZ, r2⟩)
theorem Wk.putF (W : Wk p l e R s m args below meth c Z EL h0 ws vm0 T h cells slots) (hx : p.tables.exec = Jvm.exec) (ho : Z.vm.findClass own = some m.cls) {R0 O n d C : String} {index kk : Nat} {ty : FieldType} (w : (Cond.fieldLink own index R0 n d).before a0 Z = true) (via : Via Z R0 O n d)
    {a : Addr} {v old : Value} (v' : Value) (F : Fld Z h a O n d old) (E : Exa Z h a C) (L : (Cond.lays C O n d).before a0 Z = true ∨ ((Cond.laysFinal C O n d).before a0 Z = true ∧ own = O ∧ meth.name = "<init>")) (wi : (Cond.instantiable C kk).before a0 Z = true)
    (hty : parseFieldDescriptor d = some ty) (hn : narrow ty v = v') (hf : fits ty v' = true) (ha : a ∈ ws ∨ h0.size ≤ a) (sf : Safe Z EL vm0 h a) (pc' : Nat) (hd : decode c.code pc = .ok (.putfield index, 3)) (hp : pc + 3 = pc')
    (K : ∀ (T' : State) (h' : Heap), Wk p l e R s m args below meth c Z EL h0 ws vm0 T' h' cells slots → Wr h h' a (RoadKit.slotOf Z O n d) v' → CHr Z EL vm0 h vm0 h' → Goes p e below Post (T'.setTop (mkF m pc' ls st))) : Goes p e below Post (T.setTop (mkF m pc ls (v :: .ref a :: st))) := by
  subst hp
  have hza := W.may ha
  have ho' := W.wown ho
  obtain ⟨locs, X, N, eh, K0, es, O', hws, hZ, ⟨k0, hS, hk⟩, C'⟩ := W
  obtain ⟨T', h', X', e', Wr', stp⟩ := RoadKit.putFN X hx hZ ho' w via eh F E L wi hty hn hf (g := mkF m pc ls (v :: .ref a :: st)) rfl rfl hd
  have C1 := CHr.wr Wr' sf C'.1
  exact Goes.go stp (K T' h' ⟨_, X', Fr.snoc X' N hza, e', K0.wr Wr' ha, es, O', hws, hZ, ⟨k0, hS, Nat.le_trans hk (Keep.of_wr Wr').1⟩, C'.trans C1⟩ Wr' C1)
theorem Wk.initO (W : Wk p l e R s m args below meth c Z EL h0 ws vm0 T h cells slots) (hx : p.tables.exec = Jvm.exec) (ho : Z.vm.findClass own = some m.cls) {index : Nat} (w1 : (Cond.methodLink own index Lib.objectInit).before a0 Z = true) (w2 : (Cond.instanceMethod Lib.objectInit).before a0 Z = true) (w3 : (Cond.code Lib.objectInit ⟨#[0xb1]⟩ 1 none).before a0 Z = true)
    (hsz : ls.size = c.maxLocals) {a : Addr} (pc' : Nat) (hd : decode c.code pc = .ok (.invokespecial index, 3)) (hp : pc + 3 = pc') (hf : 1 ≤ R.frames) (Wd : Nat) (hW : (st.map fun v => v.category).sum ≤ Wd) (hl : Wd + 12 ≤ R.locals)
    (K : ∀ (T' : State), Wk p l e R s m args below meth c Z EL h0 ws vm0 T' h cells slots → Goes p e below Post (T'.setTop (mkF m pc' ls st))) : Goes p e below Post (T.setTop (mkF m pc ls (.ref a :: st))) := by
  subst hp
  have ho' := W.wown ho
  obtain ⟨locs, X, N, eh, r⟩ := W
  obtain ⟨hK0, hes, hO, hws, hZ, r2⟩ := r
  obtain ⟨T', X', e', stp⟩ := RoadKit.initO X hx hZ ho' w1 w2 w3 eh (g := mkF m pc ls (.ref a :: st)) rfl hsz rfl hd hf (W := Wd) (by show 2 * 0 + _ ≤ _; omega) hl
  exact Goes.go stp (K T' ⟨locs, X', N, e', hK0, hes, hO, hws, hZ, r2⟩)
theorem Wk.ldcI (W : Wk p l e R s m args below meth c Z EL h0 ws vm0 T h cells slots) (hx : p.tables.exec = Jvm.exec) (ho : Z.vm.findClass own = some m.cls) {index : Nat} {v : Int32} (w : (Cond.constant own index v).before a0 Z = true)
    (pc' : Nat) (hd : decode c.code pc = .ok (.ldc index, 2)) (hp : pc + 2 = pc') (K : Goes p e below Post (T.setTop (mkF m pc' ls (.int v :: st)))) : Goes p e below Post (T.setTop (mkF m pc ls st)) := by
  subst hp
  have ho' := W.wown ho
  have hZ := W.warm
  obtain ⟨locs, X, r⟩ := W
  exact Goes.go (X.ldcInt hx ho' (mvT (s := s.setVm vm0) hZ w) (g := mkF m pc ls st) rfl hd) K
theorem Wk.ldc2 (W : Wk p l e R s m args below meth c Z EL h0 ws vm0 T h cells slots) (hx : p.tables.exec = Jvm.exec) (ho : Z.vm.findClass own = some m.cls) {index : Nat} {v : Int64} (w : (Cond.constantLong own index v).before a0 Z = true)
    (pc' : Nat) (hd : decode c.code pc = .ok (.ldc2_w index, 3)) (hp : pc + 3 = pc') (K : Goes p e below Post (T.setTop (mkF m pc' ls (.long v :: st)))) : Goes p e below Post (T.setTop (mkF m pc ls st)) := by
  subst hp
  have ho' := W.wown ho
  have hZ := W.warm
  obtain ⟨locs, X, r⟩ := W
  exact Goes.go (X.ldc2Long hx ho' (mvT (s := s.setVm vm0) hZ w) (g := mkF m pc ls st) rfl hd) K
theorem Wk.castY (W : Wk p l e R s m args below meth c Z EL h0 ws vm0 T h cells slots) (hx : p.tables.exec = Jvm.exec) (ho : Z.vm.findClass own = some m.cls) {C : String} {index : Nat} (w : (Cond.classLink own index C).before a0 Z = true) {a : Addr} (F : Ins Z h a C true)
    (pc' : Nat) (hd : decode c.code pc = .ok (.checkcast index, 3)) (hp : pc + 3 = pc') (K : ∀ (T' : State), Wk p l e R s m args below meth c Z EL h0 ws vm0 T' h cells slots → Goes p e below Post (T'.setTop (mkF m pc' ls (.ref a :: st)))) : Goes p e below Post (T.setTop (mkF m pc ls (.ref a :: st))) := by
  subst hp
  have ho' := W.wown ho
  obtain ⟨locs, X, N, eh, r⟩ := W
  obtain ⟨hK0, hes, hO, hws, hZ, r2⟩ := r
  obtain ⟨T', X', e', stp⟩ := RoadKit.castY X hx hZ ho' w eh F (g := mkF m pc ls (.ref a :: st)) rfl rfl hd
  exact Goes.go stp (K T' ⟨locs, X', N, e', hK0, hes, hO, hws, hZ, r2⟩)
theorem Wk.instY (W : Wk p l e R s m args below meth c Z EL h0 ws vm0 T h cells slots) (hx : p.tables.exec = Jvm.exec) (ho : Z.vm.findClass own = some m.cls) {C : String} {index : Nat} (w : (Cond.classLink own index C).before a0 Z = true) {a : Addr} (F : Ins Z h a C true)
    (pc' : Nat) (hd : decode c.code pc = .ok (.instanceof index, 3)) (hp : pc + 3 = pc') (K : ∀ (T' : State), Wk p l e R s m args below meth c Z EL h0 ws vm0 T' h cells slots → Goes p e below Post (T'.setTop (mkF m pc' ls (.int 1 :: st)))) : Goes p e below Post (T.setTop (mkF m pc ls (.ref a :: st))) := by
  subst hp
  have ho' := W.wown ho
  obtain ⟨locs, X, N, eh, r⟩ := W
  obtain ⟨hK0, hes, hO, hws, hZ, r2⟩ := r
  obtain ⟨T', X', e', stp⟩ := RoadKit.instY X hx hZ ho' w eh F (g := mkF m pc ls (.ref a :: st)) rfl rfl hd
  exact Goes.go stp (K T' ⟨locs, X', N, e', hK0, hes, hO, hws, hZ, r2⟩)
theorem Wk.castNull (W : Wk p l e R s m args below meth c Z EL h0 ws vm0 T h cells slots) (hx : p.tables.exec = Jvm.exec) {index : Nat} (pc' : Nat) (hd : decode c.code pc = .ok (.checkcast index, 3)) (hp : pc + 3 = pc') (K : Goes p e below Post (T.setTop (mkF m pc' ls (.null :: st)))) : Goes p e below Post (T.setTop (mkF m pc ls (.null :: st))) := by
  subst hp
  obtain ⟨locs, X, r⟩ := W
  exact Goes.go (X.checkcastNull hx (g := mkF m pc ls (.null :: st)) rfl rfl hd) K
theorem Wk.instNull (W : Wk p l e R s m args below meth c Z EL h0 ws vm0 T h cells slots) (hx : p.tables.exec = Jvm.exec) {index : Nat} (pc' : Nat) (hd : decode c.code pc = .ok (.instanceof index, 3)) (hp : pc + 3 = pc') (K : Goes p e below Post (T.setTop (mkF m pc' ls (.int 0 :: st)))) : Goes p e below Post (T.setTop (mkF m pc ls (.null :: st))) := by
  subst hp
  obtain ⟨locs, X, r⟩ := W
  exact Goes.go (X.instanceofNull hx (g := mkF m pc ls (.null :: st)) rfl rfl hd) K
theorem Wk.instNo (W : Wk p l e R s m args below meth c Z EL h0 ws vm0 T h cells slots) (hx : p.tables.exec = Jvm.exec) (ho : Z.vm.findClass own = some m.cls) {C D : String} {index : Nat} (w : (Cond.classLink own index D).before a0 Z = true) {a : Addr} (E : Exa Z h a C) (F : ∃ c t, Z.vm.findClass C = some c ∧ Z.vm.findClass D = some t ∧ Z.vm.assignable c t = false)
    (pc' : Nat) (hd : decode c.code pc = .ok (.instanceof index, 3)) (hp : pc + 3 = pc') (K : ∀ (T' : State), Wk p l e R s m args below meth c Z EL h0 ws vm0 T' h cells slots → Goes p e below Post (T'.setTop (mkF m pc' ls (.int 0 :: st)))) : Goes p e below Post (T.setTop (mkF m pc ls (.ref a :: st))) := by
  subst hp
  have ho' := W.wown ho
  obtain ⟨locs, X, N, eh, r⟩ := W
  obtain ⟨hK0, hes, hO, hws, hZ, r2⟩ := r
  obtain ⟨T', X', e', stp⟩ := RoadKit.instNo X hx hZ ho' w eh E F (g := mkF m pc ls (.ref a :: st)) rfl rfl hd
  exact Goes.go stp (K T' ⟨locs, X', N, e', hK0, hes, hO, hws, hZ, r2⟩)
theorem Wk.newR (W : Wk p l e R s m args below meth c Z EL h0 ws vm0 T h cells slots) (hx : p.tables.exec = Jvm.exec) (ho : Z.vm.findClass own = some m.cls) {C : String} {index : Nat} (w1 : (Cond.classLink own index C).before a0 Z = true) (w2 : (Cond.arrayOver (.object C)).before a0 Z = true)
    (pc' : Nat) (hd : decode c.code pc = .ok (.anewarray index, 3)) {n : Int32} (hn : ¬ n < 0) (cap : Nat) (hcap : n.toNatClampNeg ≤ cap) (hp : pc + 3 = pc') (hb : cap * 8 ≤ 536870912) (hc : cells + 1 ≤ R.cells) (hl : slots + cap ≤ R.slots)
    (K : ∀ (T' : State) (h' : Heap) (a : Addr) (k : ClassId), Wk p l e R s m args below meth c Z EL h0 ws vm0 T' h' (cells + 1) (slots + cap) → Ext h h' → a = h.size → Arv Z h' a k (.object C) n (List.replicate cap .null) .null → Ovr Z k C → Safe Z EL vm0 h' a → Goes p e below Post (T'.setTop (mkF m pc' ls (.ref a :: st)))) : Goes p e below Post (T.setTop (mkF m pc ls (.int n :: st))) := by
  subst hp
  have ho' := W.wown ho
  obtain ⟨locs, X, N, eh, K0, es, O, hws, hZ, ⟨k0, hS, hk⟩, C'⟩ := W
  obtain ⟨T', h', cA, X', e', E, A, Ov, stp⟩ := RoadKit.newR X hx hZ ho' w1 w2 eh (g := mkF m pc ls (.int n :: st)) rfl hd rfl hn hcap hb hc hl
  exact Goes.go stp (K T' h' _ cA ⟨locs, X', N, e', K0.ext E, es, O, hws, hZ, ⟨k0, hS, Nat.le_trans hk E.1⟩, C'.trans (CHr.ext E C'.1)⟩ E rfl ((Arv.new A hn).pad (pad_rep [] _ cap)) Ov fun B => Safe.new (Nat.le_refl _) ((C'.1.step fun _ _ _ q => E.2 _ _ q).2 _ B))
theorem Wk.aastore (W : Wk p l e R s m args below meth c Z EL h0 ws vm0 T h cells slots) (hx : p.tables.exec = Jvm.exec) {a : Addr} {k : ClassId} {n : Int32} {vs : List Value} {d : Value} {C : String} (V : Arv Z h a k (.object C) n vs d) (ha : a ∈ ws ∨ h0.size ≤ a) {j : Int32} {x : Value} (hxr : x.isRef = true) (hst : ∀ cl : Cell, Arr Z h a cl (.object C) → cl.cls = k → Sto Z h a x) (i : Nat) (hj : j.toNatClampNeg = i) (hin : ¬ j < 0 ∧ j < n) (hi : i < vs.length)
    (pc' : Nat) (hd : decode c.code pc = .ok (.aastore, 1)) (hp : pc + 1 = pc')
    (K : ∀ (T' : State) (h' : Heap), Wk p l e R s m args below meth c Z EL h0 ws vm0 T' h' cells slots → Keep h h' [a] → CHr Z EL vm0 h vm0 h' → Arv Z h' a k (.object C) n (vs.set i x) d → Goes p e below Post (T'.setTop (mkF m pc' ls st))) : Goes p e below Post (T.setTop (mkF m pc ls (x :: .int j :: .ref a :: st))) := by
  subst hp
  have hza := W.may ha
  obtain ⟨locs, X, N, eh, K0, es, O, hws, hZ, ⟨k0, hS, hk⟩, C'⟩ := W
  obtain ⟨cl, A, q1, S, q3, H, G⟩ := V
  obtain ⟨T', h', X', e', Wr', stp⟩ := RoadKit.stR X hx hZ eh A (j := j) (inb_of S hin) rfl (hst cl A q1) (g := mkF m pc ls (x :: .int j :: .ref a :: st)) rfl rfl hd
  have C1 := CHr.wr Wr' (Safe.arr hZ.alike A (by intro q; cases q)) C'.1
  exact Goes.go stp (K T' h' ⟨_, X', Fr.snoc X' N hza, e', K0.wr Wr' ha, es, O, hws, hZ, ⟨k0, hS, Nat.le_trans hk (Keep.of_wr Wr').1⟩, C'.trans C1⟩ (Keep.of_wr Wr') C1 (Arv.set A q1 S q3 H G (by cases x <;> simp [Value.isRef] at hxr <;> rfl) Wr' i hj hi))
theorem Wk.arraycopy (W : Wk p l e R s m args below meth c Z EL h0 ws vm0 T h cells slots) (hx : p.tables.exec = Jvm.exec) (ho : Z.vm.findClass own = some m.cls) {index : Nat} (w1 : (Cond.methodLink own index Jvm.Stand.acN).before a0 Z = true) (w2 : (Cond.native Jvm.Stand.acN).before a0 Z = true) (w3 : (Cond.static Jvm.Stand.acN).before a0 Z = true) (w4 : (Cond.initialized "java/lang/System").before a0 Z = true)
    {a b : Addr} {k k' : ClassId} {ty : FieldType} {z z' sp dp nn : Int32} {vs vd : List Value} {dv dd : Value} (us : List Value) (V : Arv Z h a k ty z vs dv) (B : Arv Z h b k' ty z' vd dd) (hty : refKind ty = false) (h1 : ¬ sp < 0) (h2 : ¬ dp < 0) (h3 : ¬ nn < 0) (h4 : sp.toNatClampNeg + nn.toNatClampNeg ≤ z.toNatClampNeg) (h5 : dp.toNatClampNeg + nn.toNatClampNeg ≤ z'.toNatClampNeg)
    (hus : us = (List.range nn.toNatClampNeg).map fun i => vs.getD (sp.toNatClampNeg + i) dv) (hl : dp.toNatClampNeg + nn.toNatClampNeg ≤ vd.length) (hb : b ∈ ws ∨ h0.size ≤ b) (sf : Safe Z EL vm0 h b) (hsz : ls.size = c.maxLocals) (pc' : Nat) (hd : decode c.code pc = .ok (.invokestatic index, 3)) (hp : pc + 3 = pc') (hf : 1 ≤ R.frames) (Wd : Nat) (hW : (st.map fun v => v.category).sum ≤ Wd) (hlo : Wd + (nativeFrameWords "java/lang/System" "arraycopy" 5 + 11) ≤ R.locals)
    (K : ∀ (T' : State) (h' : Heap), Wk p l e R s m args below meth c Z EL h0 ws vm0 T' h' cells slots → Keep h h' [b] → CHr Z EL vm0 h vm0 h' → Arv Z h' b k' ty z' (vd.take dp.toNatClampNeg ++ us ++ vd.drop (dp.toNatClampNeg + nn.toNatClampNeg)) dd → Goes p e below Post (T'.setTop (mkF m pc' ls st))) : Goes p e below Post (T.setTop (mkF m pc ls (.int nn :: .int dp :: .ref b :: .int sp :: .ref a :: st))) := by
  subst hp
  have hzb := W.may hb
  have ho' := W.wown ho
  obtain ⟨locs, X, N, eh, K0, es, O, hws, hZ, ⟨k0, hS, hk⟩, C⟩ := W
  obtain ⟨T', h', L, X', e', N', K', B', stp⟩ := cpA X hx hZ ho' w1 w2 w3 w4 eh V B (Or.inl ⟨rfl, hty⟩) h1 h2 h3 h4 h5 hus hl N hzb (g := mkF m pc ls (.int nn :: .int dp :: .ref b :: .int sp :: .ref a :: st)) rfl hsz rfl hd hf (W := Wd) (by show 2 * 0 + _ ≤ _; omega) hlo
  have C1 := CHr.keep K' (fun x hx => by cases List.mem_singleton.mp hx; exact sf) C.1
  exact Goes.go stp (K T' h' ⟨L, X', N', e', K0.trans K' (fun x hx => by cases List.mem_singleton.mp hx; exact hb), es, O, hws, hZ, ⟨k0, hS, Nat.le_trans hk K'.1⟩, C.trans C1⟩ K' C1 B')
end Wk
/-- what a callee asks of the point and of its arguments; what it leaves -/
abbrev PreB (R : Room) (as' : Array Value) (h : Heap) (mc ms : Nat) : Pt → Array Value → Prop := fun A a => a = as' ∧ A.U.heap = h ∧ A.cells + mc ≤ R.cells ∧ A.slots + ms ≤ R.slots
abbrev PostB (Z : State) (h : Heap) (ws : List Addr) (Q : Option Value → Heap → Prop) (mc ms : Nat) : Pt → Array Value → Option Value → Pt → Prop := fun A _ v B => ∃ L, (Fr Z.heap.size L ∧ Keep h B.U.heap ws ∧ Q v B.U.heap) ∧ B.locs = A.locs ++ L ∧ B.cells = A.cells + mc ∧ B.slots = A.slots + ms
abbrev PostBW (Z : State) (EL : List (String × Nat)) (vm0 : Vm) (h : Heap) (ws : List Addr) (Q : Option Value → Heap → Prop) (mc ms : Nat) : Pt → Array Value → Option Value → Pt → Prop := fun A _ v B => ∃ L, (Fr Z.heap.size L ∧ Keep h B.U.heap ws ∧ Q v B.U.heap) ∧ B.locs = A.locs ++ L ∧ B.cells = A.cells + mc ∧ B.slots = A.slots + ms ∧ CHr Z EL vm0 h B.U.vm B.U.heap
/-- the end of a body that interns nothing -/
def PostN (s Z : State) (h0 : Heap) (ws : List Addr) (Q : Option Value → Heap → Prop) (mc ms : Nat) (o : Outcome) (U : State) : Prop :=
  ∃ v L, o = .returned v ∧ (Fr Z.heap.size L ∧ Keep h0 U.heap ws ∧ Q v U.heap) ∧ FrameEnd s o U L mc ms
/-- the end of a body that may intern -/
def PostW (s Z : State) (EL : List (String × Nat)) (h0 : Heap) (ws : List Addr) (Q : Option Value → Heap → Prop) (mc ms : Nat) (o : Outcome) (U : State) : Prop :=
  ∃ v L, o = .returned v ∧ (Fr Z.heap.size L ∧ Keep h0 U.heap ws ∧ Q v U.heap) ∧ CHr Z EL s.vm h0 U.vm U.heap ∧ ReturnedEndW s o U L mc ms
/-- the contract of a body that interns nothing -/
def CN (wl : List Cond) (l : Launch) (Z : State) (y : MethodName) (bytes : ByteArray) (ml : Nat) (ret : Option FieldType) (rm : Room) (as' : Array Value) (h0 : Heap) (ws : List Addr) (Q : Option Value → Heap → Prop) : Prop :=
  MetFree l y (head1 (Cond.code y bytes ml ret :: wl) rm) (fun a U => a = as' ∧ Z.Warmed39 U.vm ∧ U.heap = h0) (fun _ _ _ _ _ => True) (fun _ U o U' => PostN U Z h0 ws Q rm.cells rm.slots o U')
/-- the contract of a body that may intern -/
def CW (wl : List Cond) (l : Launch) (Z : State) (EL : List (String × Nat)) (y : MethodName) (bytes : ByteArray) (ml : Nat) (ret : Option FieldType) (rm : Room) (as' : Array Value) (h0 : Heap) (ws : List Addr) (Q : Option Value → Heap → Prop) : Prop :=
  MetFree l y (head1 (Cond.code y bytes ml ret :: wl) rm) (fun a U => a = as' ∧ Z.Warmed39 U.vm ∧ U.heap = h0 ∧ CHv Z EL U.vm h0 ∧ ∀ x ∈ ws, Safe Z EL U.vm h0 x) (fun _ _ _ _ _ => True) (fun _ U o U' => PostW U Z EL h0 ws Q rm.cells rm.slots o U')
section Calls
variable {p : Program} {l : Launch} {e : Env} {R : Room} {s : State} {m : MethodId} {args : Array Value} {below : List Frame} {meth : Method} {c : Code} {Z : State} {EL : List (String × Nat)} {h0 : Heap} {ws : List Addr} {vm0 : Vm} {T : State} {h : Heap} {cells slots : Nat} {a0 : Array Value} {Post : Outcome → State → Prop} {pc : Nat} {ls : Array Slot} {st rest : List Value} {own : String}
theorem CN.back {y : MethodName} {bytes : ByteArray} {ml : Nat} {ret : Option FieldType} {rm : Room} {as' : Array Value} {len Wd : Nat} {Q : Option Value → Heap → Prop} (hM : CN [] l Z y bytes ml ret rm as' h ws Q) (hZ : Z.Warmed39 vm0) (wc : (Cond.code y bytes ml ret).before a0 Z = true) (wz : (Cond.initialized y.cls).before a0 Z = true) (hf : rm.frames + 1 ≤ R.frames) (hl : Wd + (ml + 11) + rm.locals ≤ R.locals) :
    Back l R p e below (s.setVm vm0) args y len Wd (PreB R as' h rm.cells rm.slots) (PostB Z h ws Q rm.cells rm.slots) :=
  backOf (s := s.setVm vm0) (Q := fun v h' L => Fr Z.heap.size L ∧ Keep h h' ws ∧ Q v h') hM hZ wc wz hf hl
theorem CW.back {y : MethodName} {bytes : ByteArray} {ml : Nat} {ret : Option FieldType} {rm : Room} {as' : Array Value} {len Wd : Nat} {Q : Option Value → Heap → Prop} (hM : CW [] l Z EL y bytes ml ret rm as' h ws Q) (hZ : Z.Warmed39 vm0) (wc : (Cond.code y bytes ml ret).before a0 Z = true) (wz : (Cond.initialized y.cls).before a0 Z = true) (hf : rm.frames + 1 ≤ R.frames) (hl : Wd + (ml + 11) + rm.locals ≤ R.locals)
    (hEL : EW Z a0 EL) (H : CHv Z EL vm0 h) (hlt : ∀ x ∈ ws, x < h.size) (hsf : ∀ x ∈ ws, Safe Z EL vm0 h x) :
    BackS l R p e below (s.setVm vm0) args y len Wd (PreB R as' h rm.cells rm.slots) (PostBW Z EL vm0 h ws Q rm.cells rm.slots) :=
  BackS.of_freeW (bytes := bytes) (maxL := ml) (ret := ret) (E := fun _ first o t L k n => k = rm.cells ∧ n = rm.slots ∧ (∃ v, o = .returned v ∧ (Fr Z.heap.size L ∧ Keep h t.heap ws ∧ Q v t.heap)) ∧ CHr Z EL first.vm h t.vm t.heap) hM hf hl
    (fun m meth c A a Y hp => have hU : Z.Warmed39 A.U.vm := wtrans (s := s.setVm vm0) hZ Y.warmed
      ⟨by show (Cond.and _ .tt).before a A.U = true; rw [Cond.before_and, mv hU wc]; rfl, mv hU wc, mv hU wz, hp.2.2.1, hp.2.2.2⟩)
    (fun m meth c A a g mk Y hp => ⟨hp.1, wtrans (s := s.setVm vm0) hZ Y.warmed, hp.2.1, (CHv.at Y hZ hEL H).1, fun x hx => (CHv.at Y hZ hEL H).safe (hlt x hx) (hsf x hx)⟩) (fun _ _ _ _ _ _ _ _ _ => trivial)
    (fun _ _ _ _ ⟨v, L, h1, h2, h3, h4⟩ => ⟨L, _, _, h4, rfl, rfl, ⟨v, h1, h2⟩, h3⟩)
    (fun m meth c A a g mk v t L k n Y hp _ _ ⟨e1, e2, ⟨v', e3, e4⟩, e5⟩ => by
      cases e3; subst e1 e2
      exact ⟨L, e4, rfl, rfl, rfl, (CHv.at Y hZ hEL H).trans e5⟩)
theorem Wk.callS (W : Wk p l e R s m args below meth c Z EL h0 ws vm0 T h cells slots) (hx : p.tables.exec = Jvm.exec) (ho : Z.vm.findClass own = some m.cls) {index : Nat} {y : MethodName} {bytes : ByteArray} {ml : Nat} {ret : Option FieldType} (w1 : (Cond.methodLink own index y).before a0 Z = true) (w2 : (Cond.static y).before a0 Z = true) (w3 : (Cond.initialized y.cls).before a0 Z = true) (w4 : (Cond.code y bytes ml ret).before a0 Z = true) (hy : y.cls ≠ "java/lang/invoke/MethodHandle" ∧ y.cls ≠ "java/lang/invoke/VarHandle")
    {Wd mc ms : Nat} {as' : Array Value} {ws' : List Addr} {Q : Option Value → Heap → Prop} (hK : Back l R p e below (s.setVm vm0) args y 3 Wd (PreB R as' h mc ms) (PostB Z h ws' Q mc ms)) (hsz : ls.size = c.maxLocals) (argsL rest : List Value) (hlen : ∀ sig, parseMethodDescriptor y.desc = some sig → argsL.length = sig.parameters.length) (hst : st = argsL.reverse ++ rest) (has : argsL.toArray = as') (hW : (rest.map fun v => v.category).sum ≤ Wd) (pc' : Nat) (hd : decode c.code pc = .ok (.invokestatic index, 3)) (hp : pc + 3 = pc') (hc : cells + mc ≤ R.cells) (hs : slots + ms ≤ R.slots) (hws' : ∀ x ∈ ws', (x ∈ ws ∨ h0.size ≤ x) ∧ Safe Z EL vm0 h x)
    (K : ∀ (v : Option Value) (T' : State) (h' : Heap), Wk p l e R s m args below meth c Z EL h0 ws vm0 T' h' (cells + mc) (slots + ms) → Keep h h' ws' → CHr Z EL vm0 h vm0 h' → Q v h' → Goes p e below Post (T'.setTop (mkF m pc' ls (v.toList ++ rest)))) : Goes p e below Post (T.setTop (mkF m pc ls st)) := by
  subst hp hst
  have ho' := W.wown ho
  obtain ⟨locs, X, N, eh, K0, es, O, hws, hZ, ⟨k0, hS, hk⟩, C⟩ := W
  obtain ⟨v, _, ⟨T1, L1', k1, n1⟩, -, X1, ⟨L1, ⟨q1, q2, q3⟩, l1, y1, z1⟩, stp⟩ := Jvm.LawKit.callS X hx ho' (mvT (s := s.setVm vm0) hZ w1) (mvT (s := s.setVm vm0) hZ w2) (mvT (s := s.setVm vm0) hZ w3) (mvT (s := s.setVm vm0) hZ w4) hy hK (g := mkF m pc ls (argsL.reverse ++ rest)) rfl hsz hlen rfl (by show 2 * 0 + _ ≤ _; omega) hd (fun _ _ => ⟨has, eh, hc, hs⟩)
  dsimp only [Pt.U, Pt.locs, Pt.cells, Pt.slots] at X1 l1 y1 z1 stp q1 q2 q3
  subst l1 y1 z1
  have C1 := CHr.keep q2 (fun x hx => (hws' x hx).2) C.1
  exact Goes.go stp (K v T1 T1.heap ⟨_, X1, N.app q1, rfl, K0.trans q2 (fun x hx => (hws' x hx).1), es, O, hws, hZ, ⟨k0, hS, Nat.le_trans hk q2.1⟩, C.trans C1⟩ q2 C1 q3)
theorem Wk.special (W : Wk p l e R s m args below meth c Z EL h0 ws vm0 T h cells slots) (hx : p.tables.exec = Jvm.exec) (ho : Z.vm.findClass own = some m.cls) {index : Nat} {y : MethodName} (hy1 : y.name = "<init>") {bytes : ByteArray} {ml : Nat} (w1 : (Cond.methodLink own index y).before a0 Z = true) (w2 : (Cond.instanceMethod y).before a0 Z = true) (w4 : (Cond.code y bytes ml none).before a0 Z = true) (hy : y.cls ≠ "java/lang/invoke/MethodHandle" ∧ y.cls ≠ "java/lang/invoke/VarHandle")
    {Wd mc ms : Nat} {as' : Array Value} {ws' : List Addr} {Q : Option Value → Heap → Prop} (hK : Back l R p e below (s.setVm vm0) args y 3 Wd (PreB R as' h mc ms) (PostB Z h ws' Q mc ms)) (a : Addr) (hsz : ls.size = c.maxLocals) (argsL rest : List Value) (hlen : ∀ sig, parseMethodDescriptor y.desc = some sig → argsL.length = sig.parameters.length) (hst : st = argsL.reverse ++ .ref a :: rest) (has : (Value.ref a :: argsL).toArray = as') (hW : (rest.map fun v => v.category).sum ≤ Wd) (pc' : Nat) (hd : decode c.code pc = .ok (.invokespecial index, 3)) (hp : pc + 3 = pc') (hc : cells + mc ≤ R.cells) (hs : slots + ms ≤ R.slots) (hws' : ∀ x ∈ ws', (x ∈ ws ∨ h0.size ≤ x) ∧ Safe Z EL vm0 h x)
    (K : ∀ (v : Option Value) (T' : State) (h' : Heap), Wk p l e R s m args below meth c Z EL h0 ws vm0 T' h' (cells + mc) (slots + ms) → Keep h h' ws' → CHr Z EL vm0 h vm0 h' → Q v h' → Goes p e below Post (T'.setTop (mkF m pc' ls (v.toList ++ rest)))) : Goes p e below Post (T.setTop (mkF m pc ls st)) := by
  subst hp hst
  have ho' := W.wown ho
  obtain ⟨locs, X, N, eh, K0, es, O, hws, hZ, ⟨k0, hS, hk⟩, C⟩ := W
  obtain ⟨v, _, ⟨T1, L1', k1, n1⟩, -, X1, ⟨L1, ⟨q1, q2, q3⟩, l1, y1, z1⟩, stp⟩ := X.specialBack hx hy1 ho' (mvT (s := s.setVm vm0) hZ w1) (mvT (s := s.setVm vm0) hZ w2) (mvT (s := s.setVm vm0) hZ w4) hy hK (g := mkF m pc ls (argsL.reverse ++ .ref a :: rest)) rfl hsz (Steps.refl _) hlen rfl (by show 2 * 0 + _ ≤ _; omega) hd (fun _ _ => ⟨has, eh, hc, hs⟩)
  dsimp only [Pt.U, Pt.locs, Pt.cells, Pt.slots] at X1 l1 y1 z1 stp q1 q2 q3
  subst l1 y1 z1
  have C1 := CHr.keep q2 (fun x hx => (hws' x hx).2) C.1
  exact Goes.run stp (K v T1 T1.heap ⟨_, X1, N.app q1, rfl, K0.trans q2 (fun x hx => (hws' x hx).1), es, O, hws, hZ, ⟨k0, hS, Nat.le_trans hk q2.1⟩, C.trans C1⟩ q2 C1 q3)
theorem Wk.virtual (W : Wk p l e R s m args below meth c Z EL h0 ws vm0 T h cells slots) (hx : p.tables.exec = Jvm.exec) (ho : Z.vm.findClass own = some m.cls) {index : Nat} {C' : String} {y z : MethodName} (w1 : (Cond.methodLink own index y).before a0 Z = true) (w2 : (Cond.declares y).before a0 Z = true) (w3 : (Cond.selects C' y z).before a0 Z = true) (w4 : (Cond.instanceMethod z).before a0 Z = true) (nf : NotFace (s.setVm vm0) y) (hy : y.cls ≠ "java/lang/invoke/MethodHandle" ∧ y.cls ≠ "java/lang/invoke/VarHandle")
    {Wd mc ms : Nat} {as' : Array Value} {ws' : List Addr} {Q : Option Value → Heap → Prop} (hK : Back l R p e below (s.setVm vm0) args z 3 Wd (PreB R as' h mc ms) (PostB Z h ws' Q mc ms)) {a : Addr} (E : Exa Z h a C') (hsz : ls.size = c.maxLocals) (argsL rest : List Value) (hlen : ∀ sig, parseMethodDescriptor y.desc = some sig → argsL.length = sig.parameters.length) (hst : st = argsL.reverse ++ .ref a :: rest) (has : (Value.ref a :: argsL).toArray = as') (hW : (rest.map fun v => v.category).sum ≤ Wd) (pc' : Nat) (hd : decode c.code pc = .ok (.invokevirtual index, 3)) (hp : pc + 3 = pc') (hc : cells + mc ≤ R.cells) (hs : slots + ms ≤ R.slots) (hws' : ∀ x ∈ ws', (x ∈ ws ∨ h0.size ≤ x) ∧ Safe Z EL vm0 h x)
    (K : ∀ (v : Option Value) (T' : State) (h' : Heap), Wk p l e R s m args below meth c Z EL h0 ws vm0 T' h' (cells + mc) (slots + ms) → Keep h h' ws' → CHr Z EL vm0 h vm0 h' → Q v h' → Goes p e below Post (T'.setTop (mkF m pc' ls (v.toList ++ rest)))) : Goes p e below Post (T.setTop (mkF m pc ls st)) := by
  subst hp hst
  have ho' := W.wown ho
  obtain ⟨locs, X, N, eh, K0, es, O, hws, hZ, ⟨k0, hS, hk⟩, C⟩ := W
  obtain ⟨cq, kq, qa, qb, qc⟩ := isOf (s := s.setVm vm0) hZ eh E
  obtain ⟨v, _, ⟨T1, L1', k1, n1⟩, -, X1, ⟨L1, ⟨q1, q2, q3⟩, l1, y1, z1⟩, stp⟩ := X.virtualBack hx ho' (mvT (s := s.setVm vm0) hZ w1) (mvT (s := s.setVm vm0) hZ w2) nf (mvT (s := s.setVm vm0) hZ w3) (mvT (s := s.setVm vm0) hZ w4) hy hK qa qc (g := mkF m pc ls (argsL.reverse ++ .ref a :: rest)) rfl hsz (Steps.refl _) hlen rfl (by show 2 * 0 + _ ≤ _; omega) hd (fun _ _ => ⟨has, eh, hc, hs⟩)
  dsimp only [Pt.U, Pt.locs, Pt.cells, Pt.slots] at X1 l1 y1 z1 stp q1 q2 q3
  subst l1 y1 z1
  have C1 := CHr.keep q2 (fun x hx => (hws' x hx).2) C.1
  exact Goes.run stp (K v T1 T1.heap ⟨_, X1, N.app q1, rfl, K0.trans q2 (fun x hx => (hws' x hx).1), es, O, hws, hZ, ⟨k0, hS, Nat.le_trans hk q2.1⟩, C.trans C1⟩ q2 C1 q3)
theorem Wk.priv (W : Wk p l e R s m args below meth c Z EL h0 ws vm0 T h cells slots) (hx : p.tables.exec = Jvm.exec) (ho : Z.vm.findClass own = some m.cls) {index : Nat} {y : MethodName} {bytes : ByteArray} {ml : Nat} {ret : Option FieldType} (w1 : (Cond.methodLink own index y).before a0 Z = true) (w2 : (Cond.instanceMethod y).before a0 Z = true) (w3 : (Cond.selects y.cls y y).before a0 Z = true) (w5 : (Cond.privateMethod y).before a0 Z = true) (w4 : (Cond.code y bytes ml ret).before a0 Z = true) (hy : y.cls ≠ "java/lang/invoke/MethodHandle" ∧ y.cls ≠ "java/lang/invoke/VarHandle")
    {Wd mc ms : Nat} {as' : Array Value} {ws' : List Addr} {Q : Option Value → Heap → Prop} (hK : Back l R p e below (s.setVm vm0) args y 3 Wd (PreB R as' h mc ms) (PostB Z h ws' Q mc ms)) {a : Addr} {C' : String} (E : Exa Z h a C') (hsz : ls.size = c.maxLocals) (argsL rest : List Value) (hlen : ∀ sig, parseMethodDescriptor y.desc = some sig → argsL.length = sig.parameters.length) (hst : st = argsL.reverse ++ .ref a :: rest) (has : (Value.ref a :: argsL).toArray = as') (hW : (rest.map fun v => v.category).sum ≤ Wd) (pc' : Nat) (hd : decode c.code pc = .ok (.invokevirtual index, 3)) (hp : pc + 3 = pc') (hc : cells + mc ≤ R.cells) (hs : slots + ms ≤ R.slots) (hws' : ∀ x ∈ ws', (x ∈ ws ∨ h0.size ≤ x) ∧ Safe Z EL vm0 h x)
    (K : ∀ (v : Option Value) (T' : State) (h' : Heap), Wk p l e R s m args below meth c Z EL h0 ws vm0 T' h' (cells + mc) (slots + ms) → Keep h h' ws' → CHr Z EL vm0 h vm0 h' → Q v h' → Goes p e below Post (T'.setTop (mkF m pc' ls (v.toList ++ rest)))) : Goes p e below Post (T.setTop (mkF m pc ls st)) := by
  subst hp hst
  have ho' := W.wown ho
  obtain ⟨locs, X, N, eh, K0, es, O, hws, hZ, ⟨k0, hS, hk⟩, C⟩ := W
  obtain ⟨cq, hcq, hcv⟩ := E.cell
  obtain ⟨v, _, ⟨T1, L1', k1, n1⟩, -, X1, ⟨L1, ⟨q1, q2, q3⟩, l1, y1, z1⟩, stp⟩ := X.privateBack hx ho' (mvT (s := s.setVm vm0) hZ w1) (mvT (s := s.setVm vm0) hZ w2) (mvT (s := s.setVm vm0) hZ w3) (Cond.privateMethod_at (mvP (s := s.setVm vm0) hZ w5 (args := #[]))) (mvT (s := s.setVm vm0) hZ w4) hy hK (g := mkF m pc ls (argsL.reverse ++ .ref a :: rest)) rfl hsz (Steps.refl _) (by rw [eh]; exact hcq) hcv hlen rfl (by show 2 * 0 + _ ≤ _; omega) hd (fun _ _ => ⟨has, eh, hc, hs⟩)
  dsimp only [Pt.U, Pt.locs, Pt.cells, Pt.slots] at X1 l1 y1 z1 stp q1 q2 q3
  subst l1 y1 z1
  have C1 := CHr.keep q2 (fun x hx => (hws' x hx).2) C.1
  exact Goes.run stp (K v T1 T1.heap ⟨_, X1, N.app q1, rfl, K0.trans q2 (fun x hx => (hws' x hx).1), es, O, hws, hZ, ⟨k0, hS, Nat.le_trans hk q2.1⟩, C.trans C1⟩ q2 C1 q3)
theorem Wk.iface (W : Wk p l e R s m args below meth c Z EL h0 ws vm0 T h cells slots) (hx : p.tables.exec = Jvm.exec) (ho : Z.vm.findClass own = some m.cls) {index count : Nat} {C' : String} {y z : MethodName} (w1 : (Cond.methodLink own index y).before a0 Z = true) (w2 : (Cond.declares y).before a0 Z = true) (w3 : (Cond.interfaceMethod y.cls y.cls y.name y.desc).before a0 Z = true) (w4 : (Cond.selects C' y z).before a0 Z = true) (w5 : (Cond.instanceMethod z).before a0 Z = true) (w6 : (Cond.publicMethod z).before a0 Z = true) (w7 : (Cond.unhidden C' y.name y.desc).before a0 Z = true) (w8 : (Cond.castable C' y.cls).before a0 Z = true) (hI : ((Cond.interfaceMethod y.cls y.cls y.name y.desc).onTables && (Cond.interfaceMethod y.cls y.cls y.name y.desc).keepsFace) = true) (hy : y.cls ≠ "java/lang/invoke/MethodHandle" ∧ y.cls ≠ "java/lang/invoke/VarHandle")
    {Wd mc ms : Nat} {as' : Array Value} {ws' : List Addr} {Q : Option Value → Heap → Prop} (hK : Back l R p e below (s.setVm vm0) args z 5 Wd (PreB R as' h mc ms) (PostB Z h ws' Q mc ms)) {a : Addr} (E : Exa Z h a C') (hsz : ls.size = c.maxLocals) (argsL rest : List Value) (hlen : ∀ sig, parseMethodDescriptor y.desc = some sig → argsL.length = sig.parameters.length) (hst : st = argsL.reverse ++ .ref a :: rest) (has : (Value.ref a :: argsL).toArray = as') (hW : (rest.map fun v => v.category).sum ≤ Wd) (pc' : Nat) (hd : decode c.code pc = .ok (.invokeinterface index count, 5)) (hp : pc + 5 = pc') (hc : cells + mc ≤ R.cells) (hs : slots + ms ≤ R.slots) (hws' : ∀ x ∈ ws', (x ∈ ws ∨ h0.size ≤ x) ∧ Safe Z EL vm0 h x)
    (K : ∀ (v : Option Value) (T' : State) (h' : Heap), Wk p l e R s m args below meth c Z EL h0 ws vm0 T' h' (cells + mc) (slots + ms) → Keep h h' ws' → CHr Z EL vm0 h vm0 h' → Q v h' → Goes p e below Post (T'.setTop (mkF m pc' ls (v.toList ++ rest)))) : Goes p e below Post (T.setTop (mkF m pc ls st)) := by
  subst hp hst
  have ho' := W.wown ho
  obtain ⟨locs, X, N, eh, K0, es, O, hws, hZ, ⟨k0, hS, hk⟩, C⟩ := W
  obtain ⟨cq, kq, qa, qb, qc⟩ := isOf (s := s.setVm vm0) hZ eh E
  obtain ⟨v, _, ⟨T1, L1', k1, n1⟩, -, X1, ⟨L1, ⟨q1, q2, q3⟩, l1, y1, z1⟩, stp⟩ := X.interfaceBack hx ho' (mvT (s := s.setVm vm0) hZ w1) (mvT (s := s.setVm vm0) hZ w2) (mvT (s := s.setVm vm0) hZ w3 hI) (mvT (s := s.setVm vm0) hZ w4) (mvT (s := s.setVm vm0) hZ w5) (mvT (s := s.setVm vm0) hZ w6) (mvT (s := s.setVm vm0) hZ w7) (mvT (s := s.setVm vm0) hZ w8) hy hK qa qb qc (g := mkF m pc ls (argsL.reverse ++ .ref a :: rest)) rfl hsz (Steps.refl _) hlen rfl (by show 2 * 0 + _ ≤ _; omega) hd (fun _ _ => ⟨has, eh, hc, hs⟩)
  dsimp only [Pt.U, Pt.locs, Pt.cells, Pt.slots] at X1 l1 y1 z1 stp q1 q2 q3
  subst l1 y1 z1
  have C1 := CHr.keep q2 (fun x hx => (hws' x hx).2) C.1
  exact Goes.run stp (K v T1 T1.heap ⟨_, X1, N.app q1, rfl, K0.trans q2 (fun x hx => (hws' x hx).1), es, O, hws, hZ, ⟨k0, hS, Nat.le_trans hk q2.1⟩, C.trans C1⟩ q2 C1 q3)
theorem Wk.callSW (W : Wk p l e R s m args below meth c Z EL h0 ws vm0 T h cells slots) (hx : p.tables.exec = Jvm.exec) (ho : Z.vm.findClass own = some m.cls) {index : Nat} {y : MethodName} {bytes : ByteArray} {ml : Nat} {ret : Option FieldType} (w1 : (Cond.methodLink own index y).before a0 Z = true) (w2 : (Cond.static y).before a0 Z = true) (w3 : (Cond.initialized y.cls).before a0 Z = true) (w4 : (Cond.code y bytes ml ret).before a0 Z = true) (hy : y.cls ≠ "java/lang/invoke/MethodHandle" ∧ y.cls ≠ "java/lang/invoke/VarHandle")
    {Wd mc ms : Nat} {as' : Array Value} {ws' : List Addr} {Q : Option Value → Heap → Prop} (hK : BackS l R p e below (s.setVm vm0) args y 3 Wd (PreB R as' h mc ms) (PostBW Z EL vm0 h ws' Q mc ms)) (hsz : ls.size = c.maxLocals) (argsL rest : List Value) (hlen : ∀ sig, parseMethodDescriptor y.desc = some sig → argsL.length = sig.parameters.length) (hst : st = argsL.reverse ++ rest) (has : argsL.toArray = as') (hW : (rest.map fun v => v.category).sum ≤ Wd) (pc' : Nat) (hd : decode c.code pc = .ok (.invokestatic index, 3)) (hp : pc + 3 = pc') (hc : cells + mc ≤ R.cells) (hs : slots + ms ≤ R.slots) (hws' : ∀ x ∈ ws', (x ∈ ws ∨ h0.size ≤ x) ∧ Safe Z EL vm0 h x)
    (K : ∀ (v : Option Value) (vm1 : Vm) (T' : State) (h' : Heap), Wk p l e R s m args below meth c Z EL h0 ws vm1 T' h' (cells + mc) (slots + ms) → Keep h h' ws' → CHr Z EL vm0 h vm1 h' → Q v h' → Goes p e below Post (T'.setTop (mkF m pc' ls (v.toList ++ rest)))) : Goes p e below Post (T.setTop (mkF m pc ls st)) := by
  subst hp hst
  have ho' := W.wown ho
  obtain ⟨locs, X, N, eh, K0, es, O, hws, hZ, ⟨k0, hS, hk⟩, C⟩ := W
  obtain ⟨v, _, ⟨T1, L1', k1, n1⟩, -, X1, hS1, hg1, ⟨L1, ⟨q1, q2, q3⟩, l1, y1, z1, C1⟩, stp⟩ := callSS X hx ho' (mvT (s := s.setVm vm0) hZ w1) (mvT (s := s.setVm vm0) hZ w2) (mvT (s := s.setVm vm0) hZ w3) (mvT (s := s.setVm vm0) hZ w4) hy hK (g := mkF m pc ls (argsL.reverse ++ rest)) rfl hsz hlen rfl (by show 2 * 0 + _ ≤ _; omega) hd (fun _ _ => ⟨has, eh, hc, hs⟩)
  dsimp only [Pt.U, Pt.locs, Pt.cells, Pt.slots] at X1 l1 y1 z1 stp q1 q2 q3 hS1 hg1 C1
  subst l1 y1 z1
  exact Goes.run stp (K v T1.vm T1 T1.heap ⟨_, X1, N.app q1, rfl, K0.trans q2 (fun x hx => (hws' x hx).1), es, O, hws, State.Warmed39.trans (t := s.setVm vm0) hZ hS1.1, ⟨_, hS.trans hS1 (Nat.le_trans hk (by rw [← eh]; exact hg1)), Nat.le_refl _⟩, C.trans C1⟩ q2 C1 q3)
theorem Wk.specialW (W : Wk p l e R s m args below meth c Z EL h0 ws vm0 T h cells slots) (hx : p.tables.exec = Jvm.exec) (ho : Z.vm.findClass own = some m.cls) {index : Nat} {y : MethodName} (hy1 : y.name = "<init>") {bytes : ByteArray} {ml : Nat} (w1 : (Cond.methodLink own index y).before a0 Z = true) (w2 : (Cond.instanceMethod y).before a0 Z = true) (w4 : (Cond.code y bytes ml none).before a0 Z = true) (hy : y.cls ≠ "java/lang/invoke/MethodHandle" ∧ y.cls ≠ "java/lang/invoke/VarHandle")
    {Wd mc ms : Nat} {as' : Array Value} {ws' : List Addr} {Q : Option Value → Heap → Prop} (hK : BackS l R p e below (s.setVm vm0) args y 3 Wd (PreB R as' h mc ms) (PostBW Z EL vm0 h ws' Q mc ms)) (a : Addr) (hsz : ls.size = c.maxLocals) (argsL rest : List Value) (hlen : ∀ sig, parseMethodDescriptor y.desc = some sig → argsL.length = sig.parameters.length) (hst : st = argsL.reverse ++ .ref a :: rest) (has : (Value.ref a :: argsL).toArray = as') (hW : (rest.map fun v => v.category).sum ≤ Wd) (pc' : Nat) (hd : decode c.code pc = .ok (.invokespecial index, 3)) (hp : pc + 3 = pc') (hc : cells + mc ≤ R.cells) (hs : slots + ms ≤ R.slots) (hws' : ∀ x ∈ ws', (x ∈ ws ∨ h0.size ≤ x) ∧ Safe Z EL vm0 h x)
    (K : ∀ (v : Option Value) (vm1 : Vm) (T' : State) (h' : Heap), Wk p l e R s m args below meth c Z EL h0 ws vm1 T' h' (cells + mc) (slots + ms) → Keep h h' ws' → CHr Z EL vm0 h vm1 h' → Q v h' → Goes p e below Post (T'.setTop (mkF m pc' ls (v.toList ++ rest)))) : Goes p e below Post (T.setTop (mkF m pc ls st)) := by
  subst hp hst
  have ho' := W.wown ho
  obtain ⟨locs, X, N, eh, K0, es, O, hws, hZ, ⟨k0, hS, hk⟩, C⟩ := W
  obtain ⟨v, _, ⟨T1, L1', k1, n1⟩, -, X1, hS1, hg1, ⟨L1, ⟨q1, q2, q3⟩, l1, y1, z1, C1⟩, stp⟩ := X.specialBackS hx hy1 ho' (mvT (s := s.setVm vm0) hZ w1) (mvT (s := s.setVm vm0) hZ w2) (mvT (s := s.setVm vm0) hZ w4) hy hK (g := mkF m pc ls (argsL.reverse ++ .ref a :: rest)) rfl hsz (Steps.refl _) hlen rfl (by show 2 * 0 + _ ≤ _; omega) hd (fun _ _ => ⟨has, eh, hc, hs⟩)
  dsimp only [Pt.U, Pt.locs, Pt.cells, Pt.slots] at X1 l1 y1 z1 stp q1 q2 q3 hS1 hg1 C1
  subst l1 y1 z1
  exact Goes.run stp (K v T1.vm T1 T1.heap ⟨_, X1, N.app q1, rfl, K0.trans q2 (fun x hx => (hws' x hx).1), es, O, hws, State.Warmed39.trans (t := s.setVm vm0) hZ hS1.1, ⟨_, hS.trans hS1 (Nat.le_trans hk (by rw [← eh]; exact hg1)), Nat.le_refl _⟩, C.trans C1⟩ q2 C1 q3)
theorem Wk.virtualW (W : Wk p l e R s m args below meth c Z EL h0 ws vm0 T h cells slots) (hx : p.tables.exec = Jvm.exec) (ho : Z.vm.findClass own = some m.cls) {index : Nat} {C' : String} {y z : MethodName} (w1 : (Cond.methodLink own index y).before a0 Z = true) (w2 : (Cond.declares y).before a0 Z = true) (w3 : (Cond.selects C' y z).before a0 Z = true) (w4 : (Cond.instanceMethod z).before a0 Z = true) (nf : NotFace (s.setVm vm0) y) (hy : y.cls ≠ "java/lang/invoke/MethodHandle" ∧ y.cls ≠ "java/lang/invoke/VarHandle")
    {Wd mc ms : Nat} {as' : Array Value} {ws' : List Addr} {Q : Option Value → Heap → Prop} (hK : BackS l R p e below (s.setVm vm0) args z 3 Wd (PreB R as' h mc ms) (PostBW Z EL vm0 h ws' Q mc ms)) {a : Addr} (E : Exa Z h a C') (hsz : ls.size = c.maxLocals) (argsL rest : List Value) (hlen : ∀ sig, parseMethodDescriptor y.desc = some sig → argsL.length = sig.parameters.length) (hst : st = argsL.reverse ++ .ref a :: rest) (has : (Value.ref a :: argsL).toArray = as') (hW : (rest.map fun v => v.category).sum ≤ Wd) (pc' : Nat) (hd : decode c.code pc = .ok (.invokevirtual index, 3)) (hp : pc + 3 = pc') (hc : cells + mc ≤ R.cells) (hs : slots + ms ≤ R.slots) (hws' : ∀ x ∈ ws', (x ∈ ws ∨ h0.size ≤ x) ∧ Safe Z EL vm0 h x)
    (K : ∀ (v : Option Value) (vm1 : Vm) (T' : State) (h' : Heap), Wk p l e R s m args below meth c Z EL h0 ws vm1 T' h' (cells + mc) (slots + ms) → Keep h h' ws' → CHr Z EL vm0 h vm1 h' → Q v h' → Goes p e below Post (T'.setTop (mkF m pc' ls (v.toList ++ rest)))) : Goes p e below Post (T.setTop (mkF m pc ls st)) := by
  subst hp hst
  have ho' := W.wown ho
  obtain ⟨locs, X, N, eh, K0, es, O, hws, hZ, ⟨k0, hS, hk⟩, C⟩ := W
  obtain ⟨cq, kq, qa, qb, qc⟩ := isOf (s := s.setVm vm0) hZ eh E
  obtain ⟨v, _, ⟨T1, L1', k1, n1⟩, -, X1, hS1, hg1, ⟨L1, ⟨q1, q2, q3⟩, l1, y1, z1, C1⟩, stp⟩ := X.virtualBackS hx ho' (mvT (s := s.setVm vm0) hZ w1) (mvT (s := s.setVm vm0) hZ w2) nf (mvT (s := s.setVm vm0) hZ w3) (mvT (s := s.setVm vm0) hZ w4) hy hK qa qc (g := mkF m pc ls (argsL.reverse ++ .ref a :: rest)) rfl hsz (Steps.refl _) hlen rfl (by show 2 * 0 + _ ≤ _; omega) hd (fun _ _ => ⟨has, eh, hc, hs⟩)
  dsimp only [Pt.U, Pt.locs, Pt.cells, Pt.slots] at X1 l1 y1 z1 stp q1 q2 q3 hS1 hg1 C1
  subst l1 y1 z1
  exact Goes.run stp (K v T1.vm T1 T1.heap ⟨_, X1, N.app q1, rfl, K0.trans q2 (fun x hx => (hws' x hx).1), es, O, hws, State.Warmed39.trans (t := s.setVm vm0) hZ hS1.1, ⟨_, hS.trans hS1 (Nat.le_trans hk (by rw [← eh]; exact hg1)), Nat.le_refl _⟩, C.trans C1⟩ q2 C1 q3)
theorem Wk.privW (W : Wk p l e R s m args below meth c Z EL h0 ws vm0 T h cells slots) (hx : p.tables.exec = Jvm.exec) (ho : Z.vm.findClass own = some m.cls) {index : Nat} {y : MethodName} {bytes : ByteArray} {ml : Nat} {ret : Option FieldType} (w1 : (Cond.methodLink own index y).before a0 Z = true) (w2 : (Cond.instanceMethod y).before a0 Z = true) (w3 : (Cond.selects y.cls y y).before a0 Z = true) (w5 : (Cond.privateMethod y).before a0 Z = true) (w4 : (Cond.code y bytes ml ret).before a0 Z = true) (hy : y.cls ≠ "java/lang/invoke/MethodHandle" ∧ y.cls ≠ "java/lang/invoke/VarHandle")
    {Wd mc ms : Nat} {as' : Array Value} {ws' : List Addr} {Q : Option Value → Heap → Prop} (hK : BackS l R p e below (s.setVm vm0) args y 3 Wd (PreB R as' h mc ms) (PostBW Z EL vm0 h ws' Q mc ms)) {a : Addr} {C' : String} (E : Exa Z h a C') (hsz : ls.size = c.maxLocals) (argsL rest : List Value) (hlen : ∀ sig, parseMethodDescriptor y.desc = some sig → argsL.length = sig.parameters.length) (hst : st = argsL.reverse ++ .ref a :: rest) (has : (Value.ref a :: argsL).toArray = as') (hW : (rest.map fun v => v.category).sum ≤ Wd) (pc' : Nat) (hd : decode c.code pc = .ok (.invokevirtual index, 3)) (hp : pc + 3 = pc') (hc : cells + mc ≤ R.cells) (hs : slots + ms ≤ R.slots) (hws' : ∀ x ∈ ws', (x ∈ ws ∨ h0.size ≤ x) ∧ Safe Z EL vm0 h x)
    (K : ∀ (v : Option Value) (vm1 : Vm) (T' : State) (h' : Heap), Wk p l e R s m args below meth c Z EL h0 ws vm1 T' h' (cells + mc) (slots + ms) → Keep h h' ws' → CHr Z EL vm0 h vm1 h' → Q v h' → Goes p e below Post (T'.setTop (mkF m pc' ls (v.toList ++ rest)))) : Goes p e below Post (T.setTop (mkF m pc ls st)) := by
  subst hp hst
  have ho' := W.wown ho
  obtain ⟨locs, X, N, eh, K0, es, O, hws, hZ, ⟨k0, hS, hk⟩, C⟩ := W
  obtain ⟨cq, hcq, hcv⟩ := E.cell
  obtain ⟨v, _, ⟨T1, L1', k1, n1⟩, -, X1, hS1, hg1, ⟨L1, ⟨q1, q2, q3⟩, l1, y1, z1, C1⟩, stp⟩ := X.privateBackS hx ho' (mvT (s := s.setVm vm0) hZ w1) (mvT (s := s.setVm vm0) hZ w2) (mvT (s := s.setVm vm0) hZ w3) (Cond.privateMethod_at (mvP (s := s.setVm vm0) hZ w5 (args := #[]))) (mvT (s := s.setVm vm0) hZ w4) hy hK (g := mkF m pc ls (argsL.reverse ++ .ref a :: rest)) rfl hsz (Steps.refl _) (by rw [eh]; exact hcq) hcv hlen rfl (by show 2 * 0 + _ ≤ _; omega) hd (fun _ _ => ⟨has, eh, hc, hs⟩)
  dsimp only [Pt.U, Pt.locs, Pt.cells, Pt.slots] at X1 l1 y1 z1 stp q1 q2 q3 hS1 hg1 C1
  subst l1 y1 z1
  exact Goes.run stp (K v T1.vm T1 T1.heap ⟨_, X1, N.app q1, rfl, K0.trans q2 (fun x hx => (hws' x hx).1), es, O, hws, State.Warmed39.trans (t := s.setVm vm0) hZ hS1.1, ⟨_, hS.trans hS1 (Nat.le_trans hk (by rw [← eh]; exact hg1)), Nat.le_refl _⟩, C.trans C1⟩ q2 C1 q3)
theorem Wk.ifaceW (W : Wk p l e R s m args below meth c Z EL h0 ws vm0 T h cells slots) (hx : p.tables.exec = Jvm.exec) (ho : Z.vm.findClass own = some m.cls) {index count : Nat} {C' : String} {y z : MethodName} (w1 : (Cond.methodLink own index y).before a0 Z = true) (w2 : (Cond.declares y).before a0 Z = true) (w3 : (Cond.interfaceMethod y.cls y.cls y.name y.desc).before a0 Z = true) (w4 : (Cond.selects C' y z).before a0 Z = true) (w5 : (Cond.instanceMethod z).before a0 Z = true) (w6 : (Cond.publicMethod z).before a0 Z = true) (w7 : (Cond.unhidden C' y.name y.desc).before a0 Z = true) (w8 : (Cond.castable C' y.cls).before a0 Z = true) (hI : ((Cond.interfaceMethod y.cls y.cls y.name y.desc).onTables && (Cond.interfaceMethod y.cls y.cls y.name y.desc).keepsFace) = true) (hy : y.cls ≠ "java/lang/invoke/MethodHandle" ∧ y.cls ≠ "java/lang/invoke/VarHandle")
    {Wd mc ms : Nat} {as' : Array Value} {ws' : List Addr} {Q : Option Value → Heap → Prop} (hK : BackS l R p e below (s.setVm vm0) args z 5 Wd (PreB R as' h mc ms) (PostBW Z EL vm0 h ws' Q mc ms)) {a : Addr} (E : Exa Z h a C') (hsz : ls.size = c.maxLocals) (argsL rest : List Value) (hlen : ∀ sig, parseMethodDescriptor y.desc = some sig → argsL.length = sig.parameters.length) (hst : st = argsL.reverse ++ .ref a :: rest) (has : (Value.ref a :: argsL).toArray = as') (hW : (rest.map fun v => v.category).sum ≤ Wd) (pc' : Nat) (hd : decode c.code pc = .ok (.invokeinterface index count, 5)) (hp : pc + 5 = pc') (hc : cells + mc ≤ R.cells) (hs : slots + ms ≤ R.slots) (hws' : ∀ x ∈ ws', (x ∈ ws ∨ h0.size ≤ x) ∧ Safe Z EL vm0 h x)
    (K : ∀ (v : Option Value) (vm1 : Vm) (T' : State) (h' : Heap), Wk p l e R s m args below meth c Z EL h0 ws vm1 T' h' (cells + mc) (slots + ms) → Keep h h' ws' → CHr Z EL vm0 h vm1 h' → Q v h' → Goes p e below Post (T'.setTop (mkF m pc' ls (v.toList ++ rest)))) : Goes p e below Post (T.setTop (mkF m pc ls st)) := by
  subst hp hst
  have ho' := W.wown ho
  obtain ⟨locs, X, N, eh, K0, es, O, hws, hZ, ⟨k0, hS, hk⟩, C⟩ := W
  obtain ⟨cq, kq, qa, qb, qc⟩ := isOf (s := s.setVm vm0) hZ eh E
  obtain ⟨v, _, ⟨T1, L1', k1, n1⟩, -, X1, hS1, hg1, ⟨L1, ⟨q1, q2, q3⟩, l1, y1, z1, C1⟩, stp⟩ := X.interfaceBackS hx ho' (mvT (s := s.setVm vm0) hZ w1) (mvT (s := s.setVm vm0) hZ w2) (mvT (s := s.setVm vm0) hZ w3 hI) (mvT (s := s.setVm vm0) hZ w4) (mvT (s := s.setVm vm0) hZ w5) (mvT (s := s.setVm vm0) hZ w6) (mvT (s := s.setVm vm0) hZ w7) (mvT (s := s.setVm vm0) hZ w8) hy hK qa qb qc (g := mkF m pc ls (argsL.reverse ++ .ref a :: rest)) rfl hsz (Steps.refl _) hlen rfl (by show 2 * 0 + _ ≤ _; omega) hd (fun _ _ => ⟨has, eh, hc, hs⟩)
  dsimp only [Pt.U, Pt.locs, Pt.cells, Pt.slots] at X1 l1 y1 z1 stp q1 q2 q3 hS1 hg1 C1
  subst l1 y1 z1
  exact Goes.run stp (K v T1.vm T1 T1.heap ⟨_, X1, N.app q1, rfl, K0.trans q2 (fun x hx => (hws' x hx).1), es, O, hws, State.Warmed39.trans (t := s.setVm vm0) hZ hS1.1, ⟨_, hS.trans hS1 (Nat.le_trans hk (by rw [← eh]; exact hg1)), Nat.le_refl _⟩, C.trans C1⟩ q2 C1 q3)
theorem Wk.nf (W : Wk p l e R s m args below meth c Z EL h0 ws vm0 T h cells slots) {C' : String} {y : MethodName} (w3 : (Cond.selects C' y y).before a0 Z = true) : NotFace (s.setVm vm0) y := notFace_of_selects (args := #[]) (mvT (s := s.setVm vm0) W.warm w3)
end Calls
section Ends
variable {p : Program} {l : Launch} {e : Env} {R : Room} {s : State} {m : MethodId} {args : Array Value} {below : List Frame} {meth : Method} {c : Code} {Z : State} {EL : List (String × Nat)} {h0 : Heap} {ws : List Addr} {vm0 : Vm} {T : State} {h : Heap} {cells slots : Nat} {a0 : Array Value} {pc : Nat} {ls : Array Slot} {rest : List Value} {own : String} {mc ms : Nat} {Q : Option Value → Heap → Prop}
theorem CN.of_walk {wl : List Cond} {y : MethodName} {bytes : ByteArray} {ml : Nat} {ret : Option FieldType} {rm : Room} {as' : Array Value} (hpl : plainFor y = true) (O : Ext Z.heap h0) (hws : ∀ x ∈ ws, Z.heap.size ≤ x)
    (body : ∀ (p : Program) (e : Env) (s : State) (m : MethodId) (below : List Frame) (meth : Method) (c : Code) (T : State), Wk p l e rm s m as' below meth c Z [] h0 ws s.vm T h0 0 0 → p.tables.exec = Jvm.exec → c.code = bytes → c.maxLocals = ml → Z.vm.findClass y.cls = some m.cls → meth.name = y.name → meth.sig.returnType = ret → meth.locks = false →
      Goes p e below (PostN s Z h0 ws Q rm.cells rm.slots) (T.setTop (entryFrame m as' ml))) : CN wl l Z y bytes ml ret rm as' h0 ws Q := by
  refine MetFree.of_bodySF hpl hisR ?_
  intro p e s m args below meth c s₁ Bd hml hP hK
  obtain ⟨rfl, hZ, hh⟩ := hP
  have X0 : Stand p l e rm s m args below meth c s₁ [] 0 0 := Stand.of_body Bd
  have e0 : s₁.heap = h0 := by rw [← hh, Bd.state]; rfl
  have hfc := findClass_of_methodNamed Bd.named
  obtain ⟨s₂, o, h1, h2, h3, h4⟩ := body p e s m below meth c s₁ ⟨[], X0, Fr.nil _, e0, Keep.refl _ _, hh, O, hws, hZ, ⟨_, (State.WarmedH.refl s).since 0, Nat.zero_le _⟩, CHr.refl (fun p hp => by cases hp)⟩ Bd.exec Bd.bytes hml (by rw [← hZ.alike.findClass]; exact hfc) (name_of_methodNamed Bd.named Bd.method).1 Bd.returns Bd.notSynchronized
  exact ⟨s₂, o, h1, h2, h3, h4⟩
theorem CW.of_walk {wl : List Cond} {y : MethodName} {bytes : ByteArray} {ml : Nat} {ret : Option FieldType} {rm : Room} {as' : Array Value} (hpl : plainFor y = true) (O : Ext Z.heap h0) (hws : ∀ x ∈ ws, Z.heap.size ≤ x)
    (body : ∀ (p : Program) (e : Env) (s : State) (m : MethodId) (below : List Frame) (meth : Method) (c : Code) (T : State), Wk p l e rm s m as' below meth c Z EL h0 ws s.vm T h0 0 0 → (∀ x ∈ ws, Safe Z EL s.vm h0 x) → p.tables.exec = Jvm.exec → c.code = bytes → c.maxLocals = ml → Z.vm.findClass y.cls = some m.cls → meth.name = y.name → meth.sig.returnType = ret → meth.locks = false →
      Goes p e below (PostW s Z EL h0 ws Q rm.cells rm.slots) (T.setTop (entryFrame m as' ml))) : CW wl l Z EL y bytes ml ret rm as' h0 ws Q := by
  refine MetFree.of_bodySF hpl hisR ?_
  intro p e s m args below meth c s₁ Bd hml hP hK
  obtain ⟨rfl, hZ, hh, hC, hsf⟩ := hP
  have X0 : Stand p l e rm s m args below meth c s₁ [] 0 0 := Stand.of_body Bd
  have e0 : s₁.heap = h0 := by rw [← hh, Bd.state]; rfl
  have hfc := findClass_of_methodNamed Bd.named
  obtain ⟨s₂, o, h1, h2, h3, h4⟩ := body p e s m below meth c s₁ ⟨[], X0, Fr.nil _, e0, Keep.refl _ _, hh, O, hws, hZ, ⟨_, (State.WarmedH.refl s).since 0, Nat.zero_le _⟩, CHr.refl hC⟩ hsf Bd.exec Bd.bytes hml (by rw [← hZ.alike.findClass]; exact hfc) (name_of_methodNamed Bd.named Bd.method).1 Bd.returns Bd.notSynchronized
  exact ⟨s₂, o, h1, h2, h3, h4⟩
theorem Wk.retI (W : Wk p l e R s m args below meth c Z EL h0 ws s.vm T h cells slots) (hx : p.tables.exec = Jvm.exec) {z : Int32} (hret : meth.sig.returnType = some .int) (hlk : meth.locks = false) (hd : decode c.code pc = .ok (.ireturn, 1)) (hc : cells ≤ mc) (hs : slots ≤ ms) (q : Q (some (.int z)) h) : Goes p e below (PostN s Z h0 ws Q mc ms) (T.setTop (mkF m pc ls ((.int z) :: rest))) := by
  obtain ⟨locs, X, N, eh, K0, -⟩ := W
  have X : Stand p l e R s m args below meth c T locs cells slots := X
  obtain ⟨fs, hr, hrun, hended, hW, hsame⟩ := X.leave (v := some (.int z)) (fun q => by rw [hret] at q; cases q) hlk
  exact ⟨_, _, retOut X hx hret rfl (Or.inl ⟨rfl, Or.inl rfl, _, rfl⟩) hd hr, hrun, hended, _, _, rfl, ⟨N, by show Keep h0 T.heap ws; rw [eh]; exact K0, by show Q _ T.heap; rw [eh]; exact q⟩, ⟨_, rfl⟩, hW, hsame.mono hc hs⟩
theorem Wk.retIW (W : Wk p l e R s m args below meth c Z EL h0 ws vm0 T h cells slots) (hx : p.tables.exec = Jvm.exec) (hEL : EW Z a0 EL) {z : Int32} (hret : meth.sig.returnType = some .int) (hlk : meth.locks = false) (hd : decode c.code pc = .ok (.ireturn, 1)) (hc : cells ≤ mc) (hs : slots ≤ ms) (q : Q (some (.int z)) h) : Goes p e below (PostW s Z EL h0 ws Q mc ms) (T.setTop (mkF m pc ls ((.int z) :: rest))) := by
  have W0 := W.mono hc hs
  obtain ⟨locs, X, N, eh, K0, es, -, -, hZ, ⟨k0, hS, hk⟩, C⟩ := W0
  obtain ⟨fs, hr, hrun, hended, hRE⟩ := X.leaveW hS (by rw [eh]; exact hk) (v := some (.int z)) (fun q => by rw [hret] at q; cases q) hlk
  exact ⟨_, _, retOut X hx hret rfl (Or.inl ⟨rfl, Or.inl rfl, _, rfl⟩) hd hr, hrun, hended, _, _, rfl, ⟨N, by show Keep h0 T.heap ws; rw [eh]; exact K0, by show Q _ T.heap; rw [eh]; exact q⟩, by show CHr Z EL s.vm h0 T.vm T.heap; rw [eh]; exact C.trans (CHv.at X hZ hEL C.1), hRE⟩
theorem Wk.retJ (W : Wk p l e R s m args below meth c Z EL h0 ws s.vm T h cells slots) (hx : p.tables.exec = Jvm.exec) {z : Int64} (hret : meth.sig.returnType = some .long) (hlk : meth.locks = false) (hd : decode c.code pc = .ok (.lreturn, 1)) (hc : cells ≤ mc) (hs : slots ≤ ms) (q : Q (some (.long z)) h) : Goes p e below (PostN s Z h0 ws Q mc ms) (T.setTop (mkF m pc ls ((.long z) :: rest))) := by
  obtain ⟨locs, X, N, eh, K0, -⟩ := W
  have X : Stand p l e R s m args below meth c T locs cells slots := X
  obtain ⟨fs, hr, hrun, hended, hW, hsame⟩ := X.leave (v := some (.long z)) (fun q => by rw [hret] at q; cases q) hlk
  exact ⟨_, _, retOut X hx hret rfl (Or.inr (Or.inl ⟨rfl, rfl, _, rfl⟩)) hd hr, hrun, hended, _, _, rfl, ⟨N, by show Keep h0 T.heap ws; rw [eh]; exact K0, by show Q _ T.heap; rw [eh]; exact q⟩, ⟨_, rfl⟩, hW, hsame.mono hc hs⟩
theorem Wk.retJW (W : Wk p l e R s m args below meth c Z EL h0 ws vm0 T h cells slots) (hx : p.tables.exec = Jvm.exec) (hEL : EW Z a0 EL) {z : Int64} (hret : meth.sig.returnType = some .long) (hlk : meth.locks = false) (hd : decode c.code pc = .ok (.lreturn, 1)) (hc : cells ≤ mc) (hs : slots ≤ ms) (q : Q (some (.long z)) h) : Goes p e below (PostW s Z EL h0 ws Q mc ms) (T.setTop (mkF m pc ls ((.long z) :: rest))) := by
  have W0 := W.mono hc hs
  obtain ⟨locs, X, N, eh, K0, es, -, -, hZ, ⟨k0, hS, hk⟩, C⟩ := W0
  obtain ⟨fs, hr, hrun, hended, hRE⟩ := X.leaveW hS (by rw [eh]; exact hk) (v := some (.long z)) (fun q => by rw [hret] at q; cases q) hlk
  exact ⟨_, _, retOut X hx hret rfl (Or.inr (Or.inl ⟨rfl, rfl, _, rfl⟩)) hd hr, hrun, hended, _, _, rfl, ⟨N, by show Keep h0 T.heap ws; rw [eh]; exact K0, by show Q _ T.heap; rw [eh]; exact q⟩, by show CHr Z EL s.vm h0 T.vm T.heap; rw [eh]; exact C.trans (CHv.at X hZ hEL C.1), hRE⟩
theorem Wk.retA (W : Wk p l e R s m args below meth c Z EL h0 ws s.vm T h cells slots) (hx : p.tables.exec = Jvm.exec) {t : FieldType} {z : Value} (ht : t.isReference = true) (hz : z.isRef = true) (hret : meth.sig.returnType = some t) (hlk : meth.locks = false) (hd : decode c.code pc = .ok (.areturn, 1)) (hc : cells ≤ mc) (hs : slots ≤ ms) (q : Q (some z) h) : Goes p e below (PostN s Z h0 ws Q mc ms) (T.setTop (mkF m pc ls (z :: rest))) := by
  obtain ⟨locs, X, N, eh, K0, -⟩ := W
  have X : Stand p l e R s m args below meth c T locs cells slots := X
  obtain ⟨fs, hr, hrun, hended, hW, hsame⟩ := X.leave (v := some z) (fun q => by rw [hret] at q; cases q) hlk
  exact ⟨_, _, retOut X hx hret (by cases t <;> simp [FieldType.isReference] at ht <;> cases z <;> simp [Value.isRef] at hz <;> rfl) (Or.inr (Or.inr (Or.inr (Or.inr ⟨rfl, ht, hz⟩)))) hd hr, hrun, hended, _, _, rfl, ⟨N, by show Keep h0 T.heap ws; rw [eh]; exact K0, by show Q _ T.heap; rw [eh]; exact q⟩, ⟨_, rfl⟩, hW, hsame.mono hc hs⟩
theorem Wk.retAW (W : Wk p l e R s m args below meth c Z EL h0 ws vm0 T h cells slots) (hx : p.tables.exec = Jvm.exec) (hEL : EW Z a0 EL) {t : FieldType} {z : Value} (ht : t.isReference = true) (hz : z.isRef = true) (hret : meth.sig.returnType = some t) (hlk : meth.locks = false) (hd : decode c.code pc = .ok (.areturn, 1)) (hc : cells ≤ mc) (hs : slots ≤ ms) (q : Q (some z) h) : Goes p e below (PostW s Z EL h0 ws Q mc ms) (T.setTop (mkF m pc ls (z :: rest))) := by
  have W0 := W.mono hc hs
  obtain ⟨locs, X, N, eh, K0, es, -, -, hZ, ⟨k0, hS, hk⟩, C⟩ := W0
  obtain ⟨fs, hr, hrun, hended, hRE⟩ := X.leaveW hS (by rw [eh]; exact hk) (v := some z) (fun q => by rw [hret] at q; cases q) hlk
  exact ⟨_, _, retOut X hx hret (by cases t <;> simp [FieldType.isReference] at ht <;> cases z <;> simp [Value.isRef] at hz <;> rfl) (Or.inr (Or.inr (Or.inr (Or.inr ⟨rfl, ht, hz⟩)))) hd hr, hrun, hended, _, _, rfl, ⟨N, by show Keep h0 T.heap ws; rw [eh]; exact K0, by show Q _ T.heap; rw [eh]; exact q⟩, by show CHr Z EL s.vm h0 T.vm T.heap; rw [eh]; exact C.trans (CHv.at X hZ hEL C.1), hRE⟩
theorem Wk.retN (W : Wk p l e R s m args below meth c Z EL h0 ws s.vm T h cells slots) (hx : p.tables.exec = Jvm.exec) {z : Int32} (z' : Int32) {t : FieldType} (hn : nar t z = z') (ht : t = .boolean ∨ t = .byte ∨ t = .char ∨ t = .short) (hret : meth.sig.returnType = some t) (hlk : meth.locks = false) (hd : decode c.code pc = .ok (.ireturn, 1)) (hc : cells ≤ mc) (hs : slots ≤ ms) (q : Q (some (.int z')) h) : Goes p e below (PostN s Z h0 ws Q mc ms) (T.setTop (mkF m pc ls (.int z :: rest))) := by
  subst hn
  obtain ⟨locs, X, N, eh, K0, -⟩ := W
  have X : Stand p l e R s m args below meth c T locs cells slots := X
  obtain ⟨fs, hr, hrun, hended, hW, hsame⟩ := X.leave (v := some (.int (nar t z))) (fun q => by rw [hret] at q; cases q) hlk
  exact ⟨_, _, RoadKit.retN X hx hret ht hd hr, hrun, hended, _, _, rfl, ⟨N, by show Keep h0 T.heap ws; rw [eh]; exact K0, by show Q _ T.heap; rw [eh]; exact q⟩, ⟨_, rfl⟩, hW, hsame.mono hc hs⟩
theorem Wk.retNW (W : Wk p l e R s m args below meth c Z EL h0 ws vm0 T h cells slots) (hx : p.tables.exec = Jvm.exec) (hEL : EW Z a0 EL) {z : Int32} (z' : Int32) {t : FieldType} (hn : nar t z = z') (ht : t = .boolean ∨ t = .byte ∨ t = .char ∨ t = .short) (hret : meth.sig.returnType = some t) (hlk : meth.locks = false) (hd : decode c.code pc = .ok (.ireturn, 1)) (hc : cells ≤ mc) (hs : slots ≤ ms) (q : Q (some (.int z')) h) : Goes p e below (PostW s Z EL h0 ws Q mc ms) (T.setTop (mkF m pc ls (.int z :: rest))) := by
  subst hn
  have W0 := W.mono hc hs
  obtain ⟨locs, X, N, eh, K0, es, -, -, hZ, ⟨k0, hS, hk⟩, C⟩ := W0
  obtain ⟨fs, hr, hrun, hended, hRE⟩ := X.leaveW hS (by rw [eh]; exact hk) (v := some (.int (nar t z))) (fun q => by rw [hret] at q; cases q) hlk
  exact ⟨_, _, RoadKit.retN X hx hret ht hd hr, hrun, hended, _, _, rfl, ⟨N, by show Keep h0 T.heap ws; rw [eh]; exact K0, by show Q _ T.heap; rw [eh]; exact q⟩, by show CHr Z EL s.vm h0 T.vm T.heap; rw [eh]; exact C.trans (CHv.at X hZ hEL C.1), hRE⟩
theorem Wk.retV (W : Wk p l e R s m args below meth c Z EL h0 ws s.vm T h cells slots) (hx : p.tables.exec = Jvm.exec) (hret : meth.sig.returnType = none) (hlk : meth.locks = false) (hd : decode c.code pc = .ok (.return_, 1)) (hc : cells ≤ mc) (hs : slots ≤ ms) (q : Q none h) : Goes p e below (PostN s Z h0 ws Q mc ms) (T.setTop (mkF m pc ls [])) := by
  obtain ⟨locs, X, N, eh, K0, -⟩ := W
  have X : Stand p l e R s m args below meth c T locs cells slots := X
  obtain ⟨fs, hr, hrun, hended, hW, hsame⟩ := X.leave (v := none) (fun _ => rfl) hlk
  exact ⟨_, _, X.returnOut hx hret hd hr, hrun, hended, _, _, rfl, ⟨N, by show Keep h0 T.heap ws; rw [eh]; exact K0, by show Q _ T.heap; rw [eh]; exact q⟩, ⟨_, rfl⟩, hW, hsame.mono hc hs⟩
theorem Wk.retVW (W : Wk p l e R s m args below meth c Z EL h0 ws vm0 T h cells slots) (hx : p.tables.exec = Jvm.exec) (hEL : EW Z a0 EL) (hret : meth.sig.returnType = none) (hlk : meth.locks = false) (hd : decode c.code pc = .ok (.return_, 1)) (hc : cells ≤ mc) (hs : slots ≤ ms) (q : Q none h) : Goes p e below (PostW s Z EL h0 ws Q mc ms) (T.setTop (mkF m pc ls [])) := by
  have W0 := W.mono hc hs
  obtain ⟨locs, X, N, eh, K0, es, -, -, hZ, ⟨k0, hS, hk⟩, C⟩ := W0
  obtain ⟨fs, hr, hrun, hended, hRE⟩ := X.leaveW hS (by rw [eh]; exact hk) (v := none) (fun _ => rfl) hlk
  exact ⟨_, _, X.returnOut hx hret hd hr, hrun, hended, _, _, rfl, ⟨N, by show Keep h0 T.heap ws; rw [eh]; exact K0, by show Q _ T.heap; rw [eh]; exact q⟩, by show CHr Z EL s.vm h0 T.vm T.heap; rw [eh]; exact C.trans (CHv.at X hZ hEL C.1), hRE⟩
end Ends
end Jvm.OwnKit
namespace Jvm.OwnKit
open Sem ClassFile Op Lib Jvm.Stand Jvm.Free Jvm.LawKit Jvm.RoadKit
theorem neA {x y : Addr} (h : @LT.lt Nat _ x y ∨ @LT.lt Nat _ y x) : x ≠ y := h.elim (fun q => Nat.ne_of_lt q) (fun q => Nat.ne_of_gt q)
theorem ltN {a : Addr} {n : Nat} (h : a < n) : @LT.lt Nat _ a n := h
theorem ltA {a : Addr} {n : Nat} (h : @LT.lt Nat _ a n) : a < n := h
theorem all1 {a : Addr} {n : Nat} (h : @LT.lt Nat _ a n) : ∀ x ∈ [a], x < n := fun x hx => by cases List.mem_singleton.mp hx; exact h
theorem neN {x y : Addr} (h : x ≠ y) : @LT.lt Nat _ x y ∨ @LT.lt Nat _ y x := Nat.lt_or_gt_of_ne h
theorem cat_int (x : Int32) : (Value.int x).category = 1 := rfl
theorem cat_long (x : Int64) : (Value.long x).category = 2 := rfl
theorem cat_refv (x : Addr) : (Value.ref x).category = 1 := rfl
theorem cat_null : Value.null.category = 1 := rfl
theorem ref_nar {t : FieldType} {v : Value} (ht : t.isReference = true) (hv : v.isRef = true) : narrow t v = v ∧ fits t v = true := by
  cases t <;> simp [FieldType.isReference] at ht <;> cases v <;> simp [Value.isRef] at hv <;> exact ⟨rfl, rfl⟩
theorem bool_nar {x : Int32} (h : x = 0 ∨ x = 1) : narrow .boolean (.int x) = .int x ∧ fits .boolean (.int x) = true := by rcases h with rfl | rfl <;> exact ⟨rfl, rfl⟩
theorem cat_ref {v : Value} (h : v.isRef = true) : v.category = 1 := by cases v <;> simp [Value.isRef] at h <;> rfl
theorem one_ref {v : Value} (h : v.isRef = true) : Slot.val v = .unset ∨ ∃ w, Slot.val v = .val w ∧ w.category = 1 := Or.inr ⟨v, rfl, cat_ref h⟩
/-- an int of Java's type char, below 256 -/
def C8 (x : Int32) : Prop := ¬ x < 0 ∧ ¬ (255 : Int32) < x
/-- an int of Java's type char -/
def C16 (x : Int32) : Prop := ¬ x < 0 ∧ ¬ (65535 : Int32) < x
theorem i32lt {x y : Int32} : x < y ↔ x.toInt < y.toInt := Int32.lt_iff_toInt_lt
theorem i32nat {y : Int32} (h : y.toBitVec.toNat < 2 ^ 31) : y.toInt = (y.toBitVec.toNat : Int) := by
  have : y.toInt = y.toBitVec.toInt := rfl
  rw [this, BitVec.toInt_eq_toNat_cond, if_pos (by omega)]
theorem C16.nat {x : Int32} (h : C16 x) : x.toBitVec.toNat < 65536 := by
  obtain ⟨h1, h2⟩ := h
  rw [i32lt] at h1 h2
  have e0 : (0 : Int32).toInt = 0 := rfl
  have e1 : (65535 : Int32).toInt = 65535 := rfl
  have : x.toInt = x.toBitVec.toInt := rfl
  have hb := x.toBitVec.isLt
  rw [this, BitVec.toInt_eq_toNat_cond] at h1 h2
  by_cases hc : 2 * x.toBitVec.toNat < 2 ^ 32
  · rw [if_pos hc] at h2; omega
  · rw [if_neg hc] at h1; omega
theorem C16.of {x : Int32} (h : x.toBitVec.toNat < 65536) : C16 x := by
  have e := i32nat (y := x) (by omega)
  constructor
  · rw [i32lt, e]; have e0 : (0 : Int32).toInt = 0 := rfl
    omega
  · rw [i32lt, e]; have e1 : (65535 : Int32).toInt = 65535 := rfl
    omega
theorem C8.of {x : Int32} (h : x.toBitVec.toNat < 256) : C8 x := by
  have e := i32nat (y := x) (by omega)
  constructor
  · rw [i32lt, e]; have e0 : (0 : Int32).toInt = 0 := rfl
    omega
  · rw [i32lt, e]; have e1 : (255 : Int32).toInt = 255 := rfl
    omega
theorem C8.up {x : Int32} (h : C8 x) : C16 x := ⟨h.1, fun q => h.2 (by rw [i32lt] at q ⊢; have e1 : (65535 : Int32).toInt = 65535 := rfl; have e2 : (255 : Int32).toInt = 255 := rfl; omega)⟩
theorem i2c_nat (x : Int32) : (i2c x).toBitVec.toNat = x.toBitVec.toNat % 65536 := by
  have h : (i2c x).toBitVec = (x.toBitVec.setWidth 16).setWidth 32 := rfl
  rw [h, BitVec.toNat_setWidth, BitVec.toNat_setWidth]
  omega
theorem i2c_c16 (x : Int32) : C16 (i2c x) := C16.of (by rw [i2c_nat]; omega)
theorem i2c_id {x : Int32} (h : C16 x) : i2c x = x := by
  apply Int32.toBitVec_inj.mp
  apply BitVec.eq_of_toNat_eq
  rw [i2c_nat]
  have := h.nat
  omega
theorem nar_c16 {x : Int32} (h : C16 x) : nar .char x = x := i2c_id h
theorem and_nat (x : Int32) (k : Nat) (hk : k < 2 ^ 31) : (x &&& Int32.ofNat k).toBitVec.toNat ≤ k := by
  have e : (x &&& Int32.ofNat k).toBitVec.toNat = x.toBitVec.toNat &&& (Int32.ofNat k).toBitVec.toNat := by simp [Int32.toBitVec_and, BitVec.toNat_and]
  have e2 : (Int32.ofNat k).toBitVec.toNat = k := by
    show (BitVec.ofNat 32 k).toNat = k
    rw [BitVec.toNat_ofNat]; omega
  rw [e, e2]; exact Nat.and_le_right
theorem and255 (x : Int32) : C8 (x &&& 255) := C8.of (Nat.lt_of_le_of_lt (and_nat x 255 (by decide)) (by decide))
theorem i2c_255 (x : Int32) : i2c (x &&& 255) = x &&& 255 := i2c_id (and255 x).up
theorem i2c_c8 (x : Int32) : C8 (i2c (x &&& 255)) := by rw [i2c_255]; exact and255 x
theorem ala {α : Type} {P : α → Prop} {y : α} {L : List α} (q : P y) (r : ∀ x ∈ L, P x) : ∀ x ∈ y :: L, P x := fun x z => (List.mem_cons.mp z).elim (fun u => u ▸ q) (r x)
theorem ala0 {α : Type} {P : α → Prop} : ∀ x ∈ ([] : List α), P x := fun _ q => nomatch q
/-- x holds no byte[] -/
def NB (Z : State) (h : Heap) (x : Addr) : Prop := ∀ c : Cell, ¬ Arr Z h x c .byte
theorem NB.exa {Z : State} {h : Heap} {x : Addr} {C : String} {n : Nat} {a0 : Array Value} (E : Exa Z h x C) (w : (Cond.instantiable C n).before a0 Z = true) : NB Z h x := fun c A => RoadKit.ne_arr E w A rfl
theorem NB.arr {Z : State} {h : Heap} {x : Addr} {cl : Cell} {ty : FieldType} (A : Arr Z h x cl ty) (ht : ty ≠ .byte) : NB Z h x := fun c B => by
  cases A.1.symm.trans B.1
  obtain ⟨-, k, h1, comp, h2⟩ := A.2.1
  obtain ⟨-, k', g1, comp', g2⟩ := B.2.1
  cases h1.symm.trans g1
  rw [h2] at g2
  injection g2 with _ e
  exact ht e
theorem NB.arv {Z : State} {h : Heap} {x : Addr} {k : ClassId} {ty : FieldType} {n : Int32} {vs : List Value} {d : Value} (V : Arv Z h x k ty n vs d) (ht : ty ≠ .byte) : NB Z h x := by
  obtain ⟨c, A, -⟩ := V; exact NB.arr A ht
end Jvm.OwnKit
namespace Jvm.OwnKit
open Sem ClassFile Op Lib Jvm.Stand Jvm.Free Jvm.LawKit Jvm.RoadKit
theorem safe0 {Z : State} {vm : Vm} {h : Heap} {x : Addr} : Safe Z [] vm h x := fun B => by obtain ⟨p, hp, -⟩ := B; cases hp
theorem inr1 {a : Addr} {n : Nat} (h : @LE.le Nat _ n a) {ws : List Addr} : ∀ x ∈ [a], x ∈ ws ∨ @LE.le Nat _ n x := fun x hx => by cases List.mem_singleton.mp hx; exact Or.inr h
theorem hws1 {Z : State} {EL : List (String × Nat)} {vm : Vm} {h : Heap} {a : Addr} {n : Nat} {ws : List Addr} (q : a ∈ ws ∨ @LE.le Nat _ n a) (S : Safe Z EL vm h a) : ∀ x ∈ [a], (x ∈ ws ∨ @LE.le Nat _ n x) ∧ Safe Z EL vm h x := fun x hx => by cases List.mem_singleton.mp hx; exact ⟨q, S⟩
theorem i2b_i2b (x : Int32) : nar .byte (i2b x) = i2b x := by
  show ((x.toInt8.toInt32).toInt8).toInt32 = x.toInt8.toInt32
  rw [Int8.toInt8_toInt32]
end Jvm.OwnKit
namespace Jvm.OwnKit
open Sem ClassFile Op Lib Jvm.Stand Jvm.Free Jvm.LawKit Jvm.RoadKit
/-- a class right under the root is no subclass of a class that can be made an object of -/
theorem not_sub {Z : State} {a0 : Array Value} {C O K : String} {n : Nat} (w : (Cond.superclass C O).before a0 Z = true) (wo : (Cond.noSuperclass O).before a0 Z = true) (wi : (Cond.instantiable K n).before a0 Z = true) (h1 : C ≠ K) (h2 : O ≠ K) : ∃ c t, Z.vm.findClass C = some c ∧ Z.vm.findClass K = some t ∧ Z.vm.assignable c t = false := by
  obtain ⟨t, kt, g1, g2, g3, g4, -⟩ := Cond.instantiable_spec wi
  obtain ⟨o, ko, o1, o2, o3, -, -⟩ := Cond.noSuperclass_spec wo
  have neO := ids_ne o1 g1 h2
  have N0 : NS Z O K := by
    refine ⟨o, t, o1, g1, fun fuel => ?_⟩
    cases fuel with
    | zero => rfl
    | succ f => simp [Vm.isSubclassAux, neO, o2, o3]
  obtain ⟨c, t', c1, c2, c3⟩ := NS.step w N0 h1
  cases g1.symm.trans c2
  obtain ⟨p, k, kp, q1, q2, q3, q4, q5, -, q7⟩ := Cond.superclass_spec c1 w
  have ne := ids_ne c1 g1 h1
  have hi : kt.isInterface = false := by
    cases hq : kt.isInterface with
    | false => rfl
    | true => rw [hq] at g4; cases g4
  refine ⟨c, t, c1, g1, ?_⟩
  show Z.vm.assignableAux (255 + 1) c t = false
  simp [Vm.assignableAux, ne, q2, g2, q5, g3, hi, Vm.isSubclass, c3]
end Jvm.OwnKit
namespace Jvm.OwnKit
open Sem ClassFile Op Lib Jvm.Stand Jvm.Free Jvm.LawKit Jvm.RoadKit
section Lits
variable {p : Program} {l : Launch} {e : Env} {R : Room} {s : State} {m : MethodId} {args : Array Value} {below : List Frame} {meth : Method} {c : Code} {Z : State} {EL : List (String × Nat)} {h0 : Heap} {ws : List Addr} {vm0 : Vm} {T : State} {h : Heap} {cells slots : Nat} {a0 : Array Value} {Post : Outcome → State → Prop} {pc : Nat} {ls : Array Slot} {st rest : List Value} {own : String}
/-- ldc of a String constant, its text read -/
theorem Wk.ldcE (W : Wk p l e R s m args below meth c Z EL h0 ws vm0 T h cells slots) (hx : p.tables.exec = Jvm.exec) (ho : Z.vm.findClass own = some m.cls) {index : Nat} {text : String} (w : (Cond.stringLink own index text).before a0 Z = true) (wS : ∀ a ∈ Bundle.stringAtoms, a.before a0 Z = true) (hEL : EW Z a0 EL) (hmem : (own, index) ∈ EL)
    {vs : List Value} {z : Int32} (ht : (∀ c ∈ text.toList, c.toNat < 256) ∧ text.toList.map (fun c => Value.int (Jvm.Lit.byteI c.toNat.toUInt16)) = vs) (hz : ¬ z < 0) (hl : z.toNatClampNeg = vs.length)
    (pc' : Nat) (hd : decode c.code pc = .ok (.ldc index, 2)) (hp : pc + 2 = pc') (n : Nat) (hn : 4 * text.toList.length ≤ n) (hbig : n ≤ 536870912) (hc : cells + 2 ≤ R.cells) (hl' : slots + (n + 4) ≤ R.slots)
    (K : ∀ (vm1 : Vm) (T' : State) (h' : Heap) (a b : Addr) (k : ClassId), Wk p l e R s m args below meth c Z EL h0 ws vm1 T' h' (cells + 2) (slots + (n + 4)) → Ext h h' → CHr Z EL vm0 h vm1 h' → Exa Z h' a "java/lang/String" → Fld Z h' a "java/lang/String" "coder" "B" (.int 0) → Fld Z h' a "java/lang/String" "value" "[B" (.ref b) → Arv Z h' b k .byte z vs (.int 0) → (∀ x, Safe Z EL vm1 h' x → x ≠ a ∧ x ≠ b) → Goes p e below Post (T'.setTop (mkF m pc' ls (.ref a :: st)))) : Goes p e below Post (T.setTop (mkF m pc ls st)) := by
  subst hp
  have ho' := W.wown ho
  obtain ⟨locs, X, N, eh, K0, es, O, hws, hZ, ⟨k0, hS, hk⟩, C⟩ := W
  obtain ⟨a, T', h', k1, b, k, X', e', E, hS', hk', hZ', -, F1, F2, F3, F4, -, -, C', -, hsep, stp⟩ := ldcCH X hx hZ ho' w wS eh hS hk hEL hmem C.1 ht hz hl (g := mkF m pc ls st) rfl hd hn hbig hc hl'
  exact Goes.go stp (K T'.vm T' h' a b k ⟨locs, X', N, e', K0.ext E, es, O, hws, hZ', ⟨k1, hS', hk'⟩, C.trans C'⟩ E C' F1 F2 F3 F4 hsep)
end Lits
end Jvm.OwnKit
/- laws to paste: Road.backV, Road.codOf (cut by pick.py; bodies as the Statement names them) -/
namespace Jvm.Pilot.@@N@@
namespace StrChars
open Jvm Sem ClassFile Op Lib Jvm.Stand Jvm.Free.XT Jvm.Free.ALB Jvm.Free.JM Jvm.Free
open Jvm.Lib.Cold (StaticIs)
/-- a char array whose places are chars -/
def Ch (a : Addr) (A : Cell) (U : State) : Prop := Arr .char a A U ∧ Typed .char A
theorem Ch.mv {a : Addr} {A : Cell} {U U' : State} (h : Ch a A U) (hal : U.vm.Alike U'.vm) (hh : U'.heap = U.heap) : Ch a A U' := ⟨h.1.mv hal hh, h.2⟩
theorem Ch.keep {a : Addr} {A : Cell} {U U' : State} (h : Ch a A U) (hal : U.vm.Alike U'.vm) (hk : U'.heap[a]? = some A) : Ch a A U' := ⟨h.1.keep hal hk, h.2⟩
/-- what place i of a char[]'s cell holds -/
def cv (A : Cell) (i : Nat) : Int32 := match A.slots[i]? with | some (.int x) => x | _ => 0
theorem Ch.get {a : Addr} {A : Cell} {U : State} (h : Ch a A U) {i : Nat} (hi : i < A.slots.size) : A.slots[i]? = some (.int (cv A i)) := by
  have e := Array.getElem?_eq_getElem hi
  have f := h.2 i _ e
  unfold cv; rw [e]
  generalize A.slots[i] = v at f
  cases v <;> simp [fits] at f ⊢
/-- the byte that i2b leaves of a char -/
def lo8 (x : Int32) : Int32 := x.toInt8.toInt32
theorem fits_lo8 (y : Int32) : fits .byte (.int (lo8 y)) = true := by
  have h1 := y.toInt8.le_toInt
  have h2 := y.toInt8.toInt_lt
  simp only [lo8, fits, Bool.and_eq_true, decide_eq_true_eq, Int32.le_iff_toInt_le, Int8.toInt_toInt32, show (-128 : Int32).toInt = -128 from by decide, show (127 : Int32).toInt = 127 from by decide]
  omega
/-- A' is A but that each place j of lo .. hi - 1 holds f j -/
def Laid (A A' : Cell) (lo hi : Nat) (f : Nat → Value) : Prop := A'.cls = A.cls ∧ A'.vm = A.vm ∧ A'.slots.size = A.slots.size ∧ ∀ i, A'.slots[i]? = if lo ≤ i ∧ i < hi then some (f i) else A.slots[i]?
theorem Laid.zero (A : Cell) (lo : Nat) (f : Nat → Value) : Laid A A lo (lo + 0) f := ⟨rfl, rfl, rfl, fun i => by rw [if_neg (by omega)]⟩
theorem Laid.step {A Ak : Cell} {lo k : Nat} {f : Nat → Value} {v : Value} (h : Laid A Ak lo k f) (hlo : lo ≤ k) (hk : k < Ak.slots.size) (hv : v = f k) : Laid A (Ak.setSlot k v) lo (k + 1) f := by
  refine ⟨h.1, h.2.1, by simpa [Cell.setSlot] using h.2.2.1, fun i => ?_⟩
  by_cases e : k = i
  · subst e; rw [Cell.slots_setSlot_self v hk, if_pos (by omega), hv]
  · rw [Cell.slots_setSlot_ne v e, h.2.2.2 i]
    by_cases q : lo ≤ i ∧ i < k
    · rw [if_pos q, if_pos (by omega)]
    · rw [if_neg q, if_neg (by omega)]
def U16 : String := "java/lang/StringUTF16"
namespace Cmp5
def yN : MethodName := ⟨"java/lang/StringUTF16", "compress", "([CI[BII)I"⟩
abbrev yB : ByteArray := jdk_52_method_21_code
theorem d0 : decode yB 0 = .ok (.iconst 0, 1) := by decide +kernel
theorem d1 : decode yB 1 = .ok (.istore 5, 2) := by decide +kernel
theorem d3 : decode yB 3 = .ok (.iload 5, 2) := by decide +kernel
theorem d5 : decode yB 5 = .ok (.iload 4, 2) := by decide +kernel
theorem d7 : decode yB 7 = .ok (.if_icmp (.ge) 37, 3) := by decide +kernel
theorem d10 : decode yB 10 = .ok (.aload_n 0, 1) := by decide +kernel
theorem d11 : decode yB 11 = .ok (.iload_n 1, 1) := by decide +kernel
theorem d12 : decode yB 12 = .ok (.caload, 1) := by decide +kernel
theorem d13 : decode yB 13 = .ok (.istore 6, 2) := by decide +kernel
theorem d15 : decode yB 15 = .ok (.iload 6, 2) := by decide +kernel
theorem d17 : decode yB 17 = .ok (.sipush 255, 3) := by decide +kernel
theorem d20 : decode yB 20 = .ok (.if_icmp (.le) 6, 3) := by decide +kernel
theorem d26 : decode yB 26 = .ok (.aload_n 2, 1) := by decide +kernel
theorem d27 : decode yB 27 = .ok (.iload_n 3, 1) := by decide +kernel
theorem d28 : decode yB 28 = .ok (.iload 6, 2) := by decide +kernel
theorem d30 : decode yB 30 = .ok (.i2b, 1) := by decide +kernel
theorem d31 : decode yB 31 = .ok (.bastore, 1) := by decide +kernel
theorem d32 : decode yB 32 = .ok (.iinc 1 1, 3) := by decide +kernel
theorem d35 : decode yB 35 = .ok (.iinc 3 1, 3) := by decide +kernel
theorem d38 : decode yB 38 = .ok (.iinc 5 1, 3) := by decide +kernel
theorem d41 : decode yB 41 = .ok (.goto (-38), 3) := by decide +kernel
theorem d44 : decode yB 44 = .ok (.iload 4, 2) := by decide +kernel
theorem d46 : decode yB 46 = .ok (.ireturn, 1) := by decide +kernel
def site : List Cond := []
def tab : Cond := tabOf yN yB 7 (some .int) site
def P (b : Addr) (A : Cell) (d : Addr) (B : Cell) (o q len : Nat) (args : Array Value) (s : State) : Prop := args = #[.ref b, .int (Int32.ofNat o), .ref d, .int (Int32.ofNat q), .int (Int32.ofNat len)] ∧ Ch b A s ∧ Arr .byte d B s ∧ b ≠ d ∧ o + len ≤ A.slots.size ∧ q + len ≤ B.slots.size ∧ ∀ i, i < len → ¬ 255 < cv A (o + i)
def E (b : Addr) (A : Cell) (d : Addr) (B : Cell) (o q len : Nat) (r : Option Value) (s u : State) : Prop := r = some (.int (Int32.ofNat len)) ∧ ∃ B', Put d B' s u ∧ Laid B B' q (q + len) (fun j => Value.int (lo8 (cv A (o + (j - q)))))
/-- no char of the range above 255: len; the places written hold each char's low byte -/
theorem law (l : Launch) (b : Addr) (A : Cell) (d : Addr) (B : Cell) (o q len : Nat) : Law l yN 5 5 0 0 yB 7 (some .int) site (P b A d B o q len) (E b A d B o q len) (copyLocs d q len) 0 0 := by
  refine Law.of_walk (plainFor_of_name (by decide +kernel)) (by decide +kernel) (by decide +kernel) (by decide) (fun _ _ h => by rw [h.1]; rfl) (fun _ U U' hal hh h => ⟨h.1, h.2.1.mv hal hh, h.2.2.1.mv hal hh, h.2.2.2⟩) (fun r U U' V V' h1 hal h2 h => ⟨h.1, h.2.elim fun B' q => ⟨B', q.1.mv h1 h2, q.2⟩⟩) ?_
  intro p e s m args below meth c s₁ X0 hexec hbytes hml hret hlk hnm hown hh0 W hP
  obtain ⟨rfl, hA, hB, hne, l1, l2, hp⟩ := hP
  have c1 : Steps p.tables e below (s₁.setTop (entryFrame m #[.ref b, .int (Int32.ofNat o), .ref d, .int (Int32.ofNat q), .int (Int32.ofNat len)] 7)) (s₁.setTop (mkF m 0 #[.val (.ref b), .val (.int (Int32.ofNat o)), .val (.ref d), .val (.int (Int32.ofNat q)), .val (.int (Int32.ofNat len)), .unset, .unset] [])) := entry rfl
  have hA0 := hA.1.mv X0.warmed.alike hh0
  have hB0 := hB.mv X0.warmed.alike hh0
  have a31 := hA.1.2.2.2
  have c2 : Steps p.tables e below (s₁.setTop (entryFrame m #[.ref b, .int (Int32.ofNat o), .ref d, .int (Int32.ofNat q), .int (Int32.ofNat len)] 7)) (s₁.setTop (mkF m 3 #[.val (.ref b), .val (.int (Int32.ofNat o)), .val (.ref d), .val (.int (Int32.ofNat q)), .val (.int (Int32.ofNat len)), .val (.int 0), .unset] [])) := c1.trans (by
    refine iconstV X0.here hexec rfl 0 (hb hbytes d0) (by decide) ?_
    refine XS.istore X0.here hexec rfl (hb hbytes d1) rfl rfl ?_
    exact Steps.refl _)
  have loop : ∀ (r i : Nat), i + r = len → ∀ (z : Slot), (z = .unset ∨ ∃ w, z = .val w ∧ w.category = 1) → ∀ (Tl : State) (Bk : Cell), Stand p l e { frames := 0, locals := 0, cells := 0, slots := 0 } s m #[.ref b, .int (Int32.ofNat o), .ref d, .int (Int32.ofNat q), .int (Int32.ofNat len)] below meth c Tl ([] ++ copyLocs d q i) 0 0 → Put d Bk s₁ Tl → Laid B Bk q (q + i) (fun j => Value.int (lo8 (cv A (o + (j - q))))) →
      Steps p.tables e below (s₁.setTop (entryFrame m #[.ref b, .int (Int32.ofNat o), .ref d, .int (Int32.ofNat q), .int (Int32.ofNat len)] 7)) (Tl.setTop (mkF m 3 #[.val (.ref b), .val (.int (Int32.ofNat (o + i))), .val (.ref d), .val (.int (Int32.ofNat (q + i))), .val (.int (Int32.ofNat len)), .val (.int (Int32.ofNat i)), z] [])) → ∃ (T' : State) (B' : Cell) (z' : Slot), Stand p l e { frames := 0, locals := 0, cells := 0, slots := 0 } s m #[.ref b, .int (Int32.ofNat o), .ref d, .int (Int32.ofNat q), .int (Int32.ofNat len)] below meth c T' ([] ++ copyLocs d q len) 0 0 ∧ Put d B' s₁ T' ∧ Laid B B' q (q + len) (fun j => Value.int (lo8 (cv A (o + (j - q))))) ∧
      Steps p.tables e below (s₁.setTop (entryFrame m #[.ref b, .int (Int32.ofNat o), .ref d, .int (Int32.ofNat q), .int (Int32.ofNat len)] 7)) (T'.setTop (mkF m 3 #[.val (.ref b), .val (.int (Int32.ofNat (o + len))), .val (.ref d), .val (.int (Int32.ofNat (q + len))), .val (.int (Int32.ofNat len)), .val (.int (Int32.ofNat len)), z'] [])) := by
    intro r
    induction r with
    | zero =>
      intro i hi z hz Tl Bk Xl pl fl cl
      have hil : i = len := by omega
      rw [hil] at Xl fl cl
      exact ⟨Tl, Bk, z, Xl, pl, fl, cl⟩
    | succ r ih =>
      intro i hi z hz Tl Bk Xl pl fl cl
      have all := X0.warmed.alike.symm.trans Xl.warmed.alike
      have hAl := hA0.keep all (pl.other hne hA0.1)
      have hBk := hB0.like all pl.1 fl.1 fl.2.1 fl.2.2.1
      have hlt : q + i < Bk.slots.size := by rw [fl.2.2.1]; omega
      have c3 : Steps p.tables e below (s₁.setTop (entryFrame m #[.ref b, .int (Int32.ofNat o), .ref d, .int (Int32.ofNat q), .int (Int32.ofNat len)] 7)) (Tl.setTop (mkF m 12 #[.val (.ref b), .val (.int (Int32.ofNat (o + i))), .val (.ref d), .val (.int (Int32.ofNat (q + i))), .val (.int (Int32.ofNat len)), .val (.int (Int32.ofNat i)), z] [.int (Int32.ofNat (o + i)), .ref b])) := cl.trans (by
        refine XS.iload Xl.here hexec rfl (hb hbytes d3) rfl ?_
        refine XS.iload Xl.here hexec rfl (hb hbytes d5) rfl ?_
        refine XS.icmpNo Xl.here hexec rfl (hb hbytes d7) rfl (ii_ge_f (lt32 (by omega) (by omega))) ?_
        refine XS.aloadN Xl.here hexec rfl (hb hbytes d10) rfl rfl ?_
        refine XS.iloadN Xl.here hexec rfl (hb hbytes d11) rfl ?_
        exact Steps.refl _)
      have c4 : Steps p.tables e below (s₁.setTop (entryFrame m #[.ref b, .int (Int32.ofNat o), .ref d, .int (Int32.ofNat q), .int (Int32.ofNat len)] 7)) (Tl.setTop (mkF m 13 #[.val (.ref b), .val (.int (Int32.ofNat (o + i))), .val (.ref d), .val (.int (Int32.ofNat (q + i))), .val (.int (Int32.ofNat len)), .val (.int (Int32.ofNat i)), z] [.int (cv A (o + i))])) := c3.trans (by
        refine Xl.aget hexec hAl rfl (hA.get (i := o + i) (by omega)) rfl rfl (hb hbytes d12) ?_
        exact Steps.refl _)
      have c5 : Steps p.tables e below (s₁.setTop (entryFrame m #[.ref b, .int (Int32.ofNat o), .ref d, .int (Int32.ofNat q), .int (Int32.ofNat len)] 7)) (Tl.setTop (mkF m 15 #[.val (.ref b), .val (.int (Int32.ofNat (o + i))), .val (.ref d), .val (.int (Int32.ofNat (q + i))), .val (.int (Int32.ofNat len)), .val (.int (Int32.ofNat i)), .val (.int (cv A (o + i)))] [])) := c4.trans (by
        refine XS.istoreS Xl.here hexec rfl (hb hbytes d13) rfl rfl hz ?_
        exact Steps.refl _)
      have c6 : Steps p.tables e below (s₁.setTop (entryFrame m #[.ref b, .int (Int32.ofNat o), .ref d, .int (Int32.ofNat q), .int (Int32.ofNat len)] 7)) (Tl.setTop (mkF m 31 #[.val (.ref b), .val (.int (Int32.ofNat (o + i))), .val (.ref d), .val (.int (Int32.ofNat (q + i))), .val (.int (Int32.ofNat len)), .val (.int (Int32.ofNat i)), .val (.int (cv A (o + i)))] [.int (lo8 (cv A (o + i))), .int (Int32.ofNat (q + i)), .ref d])) := c5.trans (by
        refine XS.iload Xl.here hexec rfl (hb hbytes d15) rfl ?_
        refine sipushV Xl.here hexec rfl 255 (hb hbytes d17) (by decide) ?_
        refine XS.icmpYes Xl.here hexec rfl (pc0 := 20) rfl (hb hbytes d20) rfl (ii_le_t (hp i (by omega))) (by decide) rfl ?_
        refine XS.aloadN Xl.here hexec rfl (hb hbytes d26) rfl rfl ?_
        refine XS.iloadN Xl.here hexec rfl (hb hbytes d27) rfl ?_
        refine XS.iload Xl.here hexec rfl (hb hbytes d28) rfl ?_
        refine i2b Xl.here hexec rfl (hb hbytes d30) rfl ?_
        exact Steps.refl _)
      obtain ⟨T7, X7, p7, st7⟩ := Xl.aput hexec hBk rfl hlt rfl (fits_lo8 (cv A (o + i))) (g := (mkF m 31 #[.val (.ref b), .val (.int (Int32.ofNat (o + i))), .val (.ref d), .val (.int (Int32.ofNat (q + i))), .val (.int (Int32.ofNat len)), .val (.int (Int32.ofNat i)), .val (.int (cv A (o + i)))] [.int (lo8 (cv A (o + i))), .int (Int32.ofNat (q + i)), .ref d])) rfl (rest := []) rfl (hb hbytes d31)
      have c8 : Steps p.tables e below (s₁.setTop (entryFrame m #[.ref b, .int (Int32.ofNat o), .ref d, .int (Int32.ofNat q), .int (Int32.ofNat len)] 7)) (T7.setTop (mkF m 32 #[.val (.ref b), .val (.int (Int32.ofNat (o + i))), .val (.ref d), .val (.int (Int32.ofNat (q + i))), .val (.int (Int32.ofNat len)), .val (.int (Int32.ofNat i)), .val (.int (cv A (o + i)))] [])) := c6.trans (st7 _ (Steps.refl _))
      have c9 : Steps p.tables e below (s₁.setTop (entryFrame m #[.ref b, .int (Int32.ofNat o), .ref d, .int (Int32.ofNat q), .int (Int32.ofNat len)] 7)) (T7.setTop (mkF m 3 #[.val (.ref b), .val (.int (Int32.ofNat (o + i) + 1)), .val (.ref d), .val (.int (Int32.ofNat (q + i) + 1)), .val (.int (Int32.ofNat len)), .val (.int (Int32.ofNat i + 1)), .val (.int (cv A (o + i)))] [])) := c8.trans (by
        refine iincV X7.here hexec rfl 1 (hb hbytes d32) (by decide) rfl rfl ?_
        refine iincV X7.here hexec rfl 1 (hb hbytes d35) (by decide) rfl rfl ?_
        refine iincV X7.here hexec rfl 1 (hb hbytes d38) (by decide) rfl rfl ?_
        refine XS.goto X7.here hexec rfl (pc0 := 41) rfl (hb hbytes d41) (by decide) rfl ?_
        exact Steps.refl _)
      have c10 : Steps p.tables e below (s₁.setTop (entryFrame m #[.ref b, .int (Int32.ofNat o), .ref d, .int (Int32.ofNat q), .int (Int32.ofNat len)] 7)) (T7.setTop (mkF m 3 #[.val (.ref b), .val (.int (Int32.ofNat (o + (i + 1)))), .val (.ref d), .val (.int (Int32.ofNat (q + (i + 1)))), .val (.int (Int32.ofNat len)), .val (.int (Int32.ofNat (i + 1))), .val (.int (cv A (o + i)))] [])) := by
        have := c9
        rw [succ32, succ32, succ32] at this
        exact this
      exact ih (i + 1) (by omega) _ (Or.inr ⟨_, rfl, rfl⟩) T7 _ (by rw [copyLocs_step, ← List.append_assoc]; exact X7) (pl.trans p7) (fl.step (by omega) hlt (by simp)) c10
  obtain ⟨T9, B9, z9, X9, p9, f9, g9⟩ := loop len 0 (by omega) .unset (Or.inl rfl) s₁ B (by simpa [copyLocs] using X0) ⟨hB0.1, fun _ _ => rfl, rfl⟩ (Laid.zero _ _ _) c2
  have c11 : Steps p.tables e below (s₁.setTop (entryFrame m #[.ref b, .int (Int32.ofNat o), .ref d, .int (Int32.ofNat q), .int (Int32.ofNat len)] 7)) (T9.setTop (mkF m 46 #[.val (.ref b), .val (.int (Int32.ofNat (o + len))), .val (.ref d), .val (.int (Int32.ofNat (q + len))), .val (.int (Int32.ofNat len)), .val (.int (Int32.ofNat len)), z9] [.int (Int32.ofNat len)])) := g9.trans (by
    refine XS.iload X9.here hexec rfl (hb hbytes d3) rfl ?_
    refine XS.iload X9.here hexec rfl (hb hbytes d5) rfl ?_
    refine XS.icmpYes X9.here hexec rfl (pc0 := 7) rfl (hb hbytes d7) rfl (ii_ge_t (nlt32 (by omega) (Nat.le_refl _))) (by decide) rfl ?_
    refine XS.iload X9.here hexec rfl (hb hbytes d44) rfl ?_
    exact Steps.refl _)
  exact ⟨T9, some (.int (Int32.ofNat len)), _, _, _, X9, by simp, rfl, rfl, (fun h => by cases h), ⟨rfl, B9, p9.from hh0, f9⟩, fun fs hl => c11.trans (X9.ireturnOut hexec hret rfl (Or.inl rfl) (hb hbytes d46) hl)⟩
end Cmp5
namespace Cmp3
def yN : MethodName := ⟨"java/lang/StringUTF16", "compress", "([CII)[B"⟩
abbrev yB : ByteArray := jdk_52_method_16_code
theorem d0 : decode yB 0 = .ok (.iload_n 2, 1) := by decide +kernel
theorem d1 : decode yB 1 = .ok (.newarray .byte, 2) := by decide +kernel
theorem d3 : decode yB 3 = .ok (.astore_n 3, 1) := by decide +kernel
theorem d4 : decode yB 4 = .ok (.aload_n 0, 1) := by decide +kernel
theorem d5 : decode yB 5 = .ok (.iload_n 1, 1) := by decide +kernel
theorem d6 : decode yB 6 = .ok (.aload_n 3, 1) := by decide +kernel
theorem d7 : decode yB 7 = .ok (.iconst 0, 1) := by decide +kernel
theorem d8 : decode yB 8 = .ok (.iload_n 2, 1) := by decide +kernel
theorem d9 : decode yB 9 = .ok (.invokestatic 115, 3) := by decide +kernel
theorem d12 : decode yB 12 = .ok (.istore 4, 2) := by decide +kernel
theorem d14 : decode yB 14 = .ok (.iload 4, 2) := by decide +kernel
theorem d16 : decode yB 16 = .ok (.iload_n 2, 1) := by decide +kernel
theorem d17 : decode yB 17 = .ok (.if_icmp (.eq) 40, 3) := by decide +kernel
theorem d57 : decode yB 57 = .ok (.aload_n 3, 1) := by decide +kernel
theorem d58 : decode yB 58 = .ok (.areturn, 1) := by decide +kernel
def site : List Cond := [.arrayClass .byte, Cmp5.tab] ++ staticW U16 115 Cmp5.yN
def tab : Cond := tabOf yN yB 6 (some (.array .byte)) site
def P (b : Addr) (A : Cell) (o len : Nat) (args : Array Value) (s : State) : Prop := args = #[.ref b, .int (Int32.ofNat o), .int (Int32.ofNat len)] ∧ Ch b A s ∧ o + len ≤ A.slots.size ∧ len ≤ 536870912 ∧ ∀ i, i < len → ¬ 255 < cv A (o + i)
def E (b : Addr) (A : Cell) (o len : Nat) (r : Option Value) (s u : State) : Prop := NewArr .byte "[B" len (fun j => .int (lo8 (cv A (o + j)))) r s u ∧ u.heap.size = s.heap.size + 1
/-- no char of the range above 255: a new byte[] of their low bytes -/
theorem law (l : Launch) (b : Addr) (A : Cell) (o len : Nat) : Law l yN 3 3 1 18 yB 6 (some (.array .byte)) site (P b A o len) (E b A o len) [] 1 len := by
  refine Law.of_walk (plainFor_of_name (by decide +kernel)) (by decide +kernel) (by decide +kernel) (by decide) (fun _ _ h => by rw [h.1]; rfl) (fun _ U U' hal hh h => ⟨h.1, h.2.1.mv hal hh, h.2.2⟩) (fun r U U' V V' h1 hal h2 h => ⟨NewArr.mv r U U' V V' h1 hal h2 h.1, by rw [h1, h2]; exact h.2⟩) ?_
  intro p e s m args below meth c s₁ X0 hexec hbytes hml hret hlk hnm hown hh0 W hP
  obtain ⟨rfl, hA, l1, l2, hp⟩ := hP
  have a31 := hA.1.2.2.2
  have c1 : Steps p.tables e below (s₁.setTop (entryFrame m #[.ref b, .int (Int32.ofNat o), .int (Int32.ofNat len)] 6)) (s₁.setTop (mkF m 0 #[.val (.ref b), .val (.int (Int32.ofNat o)), .val (.int (Int32.ofNat len)), .unset, .unset, .unset] [])) := entry rfl
  have c2 : Steps p.tables e below (s₁.setTop (entryFrame m #[.ref b, .int (Int32.ofNat o), .int (Int32.ofNat len)] 6)) (s₁.setTop (mkF m 1 #[.val (.ref b), .val (.int (Int32.ofNat o)), .val (.int (Int32.ofNat len)), .unset, .unset, .unset] [.int (Int32.ofNat len)])) := c1.trans (by
    refine XS.iloadN X0.here hexec rfl (hb hbytes d0) rfl ?_
    exact Steps.refl _)
  obtain ⟨T3, B3, X3, ba3, bs3, bv3, bh3, bf3, st3⟩ := X0.anew hexec (atype := .byte) (wk W (.arrayClass .byte)) rfl (by show len * 1 ≤ _; omega) (by omega) (g := (mkF m 1 #[.val (.ref b), .val (.int (Int32.ofNat o)), .val (.int (Int32.ofNat len)), .unset, .unset, .unset] [.int (Int32.ofNat len)])) rfl (hb hbytes d1) (rest := []) rfl (Nat.le_refl _) (by show 0 + len ≤ len; omega)
  rw [hh0] at ba3 st3
  have kp3 : XT.Kept s T3 := (XT.Kept.of_eq hh0).push bh3
  have hA3 := hA.keep X3.warmed.alike (kp3 _ _ hA.1.1)
  have hne : b ≠ s.heap.size := hA.1.ne
  have c4 : Steps p.tables e below (s₁.setTop (entryFrame m #[.ref b, .int (Int32.ofNat o), .int (Int32.ofNat len)] 6)) (T3.setTop (mkF m 3 #[.val (.ref b), .val (.int (Int32.ofNat o)), .val (.int (Int32.ofNat len)), .unset, .unset, .unset] [.ref s.heap.size])) := c2.trans (st3 _ (Steps.refl _))
  have c5 : Steps p.tables e below (s₁.setTop (entryFrame m #[.ref b, .int (Int32.ofNat o), .int (Int32.ofNat len)] 6)) (T3.setTop (mkF m 9 #[.val (.ref b), .val (.int (Int32.ofNat o)), .val (.int (Int32.ofNat len)), .val (.ref s.heap.size), .unset, .unset] [.int (Int32.ofNat len), .int 0, .ref s.heap.size, .int (Int32.ofNat o), .ref b])) := c4.trans (by
    refine XS.astoreN X3.here hexec rfl (hb hbytes d3) rfl rfl rfl ?_
    refine XS.aloadN X3.here hexec rfl (hb hbytes d4) rfl rfl ?_
    refine XS.iloadN X3.here hexec rfl (hb hbytes d5) rfl ?_
    refine XS.aloadN X3.here hexec rfl (hb hbytes d6) rfl rfl ?_
    refine iconstV X3.here hexec rfl 0 (hb hbytes d7) (by decide) ?_
    refine XS.iloadN X3.here hexec rfl (hb hbytes d8) rfl ?_
    exact Steps.refl _)
  obtain ⟨v6, T6, X6, E6, g6⟩ := X3.callS hexec (Cmp5.law l b A s.heap.size B3 o 0 len) hown (wks W (staticW U16 115 Cmp5.yN)) (wk W Cmp5.tab) (W := 0) (Nat.le_of_ble_eq_true rfl) (Nat.le_of_ble_eq_true rfl) (Nat.le_refl _) (by show 0 + len + 0 ≤ len; omega) (g := (mkF m 9 #[.val (.ref b), .val (.int (Int32.ofNat o)), .val (.int (Int32.ofNat len)), .val (.ref s.heap.size), .unset, .unset] [.int (Int32.ofNat len), .int (Int32.ofNat 0), .ref s.heap.size, .int (Int32.ofNat o), .ref b])) rfl (by rw [hml]; rfl) c5 (argsL := [.ref b, .int (Int32.ofNat o), .ref s.heap.size, .int (Int32.ofNat 0), .int (Int32.ofNat len)]) (rest := []) rfl rfl (by show 2 * 0 + 0 ≤ _; decide) (hb hbytes d9) (⟨rfl, hA3, ba3, hne, l1, by rw [bs3]; simp, hp⟩)
  obtain ⟨rfl, B6, p6, f6⟩ := E6
  have c7 : Steps p.tables e below (s₁.setTop (entryFrame m #[.ref b, .int (Int32.ofNat o), .int (Int32.ofNat len)] 6)) (T6.setTop (mkF m 12 #[.val (.ref b), .val (.int (Int32.ofNat o)), .val (.int (Int32.ofNat len)), .val (.ref s.heap.size), .unset, .unset] [.int (Int32.ofNat len)])) := g6
  have c8 : Steps p.tables e below (s₁.setTop (entryFrame m #[.ref b, .int (Int32.ofNat o), .int (Int32.ofNat len)] 6)) (T6.setTop (mkF m 58 #[.val (.ref b), .val (.int (Int32.ofNat o)), .val (.int (Int32.ofNat len)), .val (.ref s.heap.size), .val (.int (Int32.ofNat len)), .unset] [.ref s.heap.size])) := c7.trans (by
    refine XS.istore X6.here hexec rfl (hb hbytes d12) rfl rfl ?_
    refine XS.iload X6.here hexec rfl (hb hbytes d14) rfl ?_
    refine XS.iloadN X6.here hexec rfl (hb hbytes d16) rfl ?_
    refine XS.icmpYes X6.here hexec rfl (pc0 := 17) rfl (hb hbytes d17) rfl (ii_eq_t rfl) (by decide) rfl ?_
    refine XS.aloadN X6.here hexec rfl (hb hbytes d57) rfl rfl ?_
    exact Steps.refl _)
  have X8 := X6.wide (L' := []) (cells' := 1) (slots' := len) (fun x hx hlt => by
    simp only [List.nil_append, copyLocs, List.mem_map, List.mem_range] at hx
    obtain ⟨i, -, rfl⟩ := hx
    exact absurd hlt (Nat.lt_irrefl _)) (Nat.le_refl _) (by omega)
  exact ⟨T6, some (.ref s.heap.size), _, _, _, X8, rfl, rfl, rfl, (fun h => by cases h), ⟨⟨rfl, B6, ba3.like (X3.warmed.alike.symm.trans X6.warmed.alike) p6.1 f6.1 f6.2.1 f6.2.2.1, f6.2.1.trans bv3, by rw [X6.warmed.alike.findClass, f6.1]; exact bf3, by rw [f6.2.2.1, bs3]; simp, fun j hj => by rw [f6.2.2.2 j, if_pos (by omega)]; rfl, kp3.put p6 (Nat.le_refl _)⟩, by rw [p6.2.2, bh3, hh0]; simp⟩, fun fs hl => c8.trans (X8.areturnOut hexec rfl hret rfl (hb hbytes d58) hl)⟩
end Cmp3
namespace CodL
def yN : MethodName := ⟨"java/lang/StringUTF16", "coderFromArrayLen", "([BI)B"⟩
abbrev yB : ByteArray := jdk_52_method_15_code
theorem d0 : decode yB 0 = .ok (.iload_n 1, 1) := by decide +kernel
theorem d1 : decode yB 1 = .ok (.aload_n 0, 1) := by decide +kernel
theorem d2 : decode yB 2 = .ok (.arraylength, 1) := by decide +kernel
theorem d3 : decode yB 3 = .ok (.isub, 1) := by decide +kernel
theorem d4 : decode yB 4 = .ok (.bipush 31, 2) := by decide +kernel
theorem d6 : decode yB 6 = .ok (.iushr, 1) := by decide +kernel
theorem d7 : decode yB 7 = .ok (.i2b, 1) := by decide +kernel
theorem d8 : decode yB 8 = .ok (.ireturn, 1) := by decide +kernel
def site : List Cond := []
def tab : Cond := tabOf yN yB 2 (some .byte) site
def P (d : Addr) (B : Cell) (args : Array Value) (s : State) : Prop := args = #[.ref d, .int (Int32.ofNat B.slots.size)] ∧ Arr .byte d B s
def E (r : Option Value) (s u : State) : Prop := XT.PureE (some (.int 0)) r s u
/-- an array as long as the number of chars: LATIN1 -/
theorem law (l : Launch) (d : Addr) (B : Cell) : Law l yN 2 2 0 0 yB 2 (some .byte) site (P d B) E [] 0 0 := by
  refine Law.of_walk (plainFor_of_name (by decide +kernel)) (by decide +kernel) (by decide +kernel) (by decide) (fun _ _ h => by rw [h.1]; rfl) (fun _ U U' hal hh h => ⟨h.1, h.2.mv hal hh⟩) (fun r U U' V V' h1 hal h2 h => XT.PureE.mv r U U' V V' h1 hal h2 h) ?_
  intro p e s m args below meth c s₁ X0 hexec hbytes hml hret hlk hnm hown hh0 W hP
  obtain ⟨rfl, hB⟩ := hP
  have hB0 := hB.mv X0.warmed.alike hh0
  have c1 : Steps p.tables e below (s₁.setTop (entryFrame m #[.ref d, .int (Int32.ofNat B.slots.size)] 2)) (s₁.setTop (mkF m 0 #[.val (.ref d), .val (.int (Int32.ofNat B.slots.size))] [])) := entry rfl
  have c2 : Steps p.tables e below (s₁.setTop (entryFrame m #[.ref d, .int (Int32.ofNat B.slots.size)] 2)) (s₁.setTop (mkF m 2 #[.val (.ref d), .val (.int (Int32.ofNat B.slots.size))] [.ref d, .int (Int32.ofNat B.slots.size)])) := c1.trans (by
    refine XS.iloadN X0.here hexec rfl (hb hbytes d0) rfl ?_
    refine XS.aloadN X0.here hexec rfl (hb hbytes d1) rfl rfl ?_
    exact Steps.refl _)
  have c3 : Steps p.tables e below (s₁.setTop (entryFrame m #[.ref d, .int (Int32.ofNat B.slots.size)] 2)) (s₁.setTop (mkF m 8 #[.val (.ref d), .val (.int (Int32.ofNat B.slots.size))] [.int (lo8 (ushr (Int32.ofNat B.slots.size - Int32.ofNat B.slots.size) 31))])) := c2.trans (by
    refine X0.alen hexec hB0 rfl rfl (hb hbytes d2) ?_
    refine XS.isub X0.here hexec rfl (hb hbytes d3) rfl ?_
    refine bipushV X0.here hexec rfl 31 (hb hbytes d4) (by decide) ?_
    refine iushr X0.here hexec rfl (hb hbytes d6) rfl ?_
    refine i2b X0.here hexec rfl (hb hbytes d7) rfl ?_
    exact Steps.refl _)
  have e0 : lo8 (ushr (Int32.ofNat B.slots.size - Int32.ofNat B.slots.size) 31) = 0 := by rw [Int32.sub_self]; decide
  rw [e0] at c3
  exact ⟨s₁, some (.int 0), _, _, _, X0, rfl, rfl, rfl, (fun h => by cases h), ⟨rfl, hh0⟩, fun fs hl => c3.trans (X0.ireturnOut hexec hret rfl (Or.inr (Or.inr (Or.inl rfl))) (hb hbytes d8) hl)⟩
end CodL
/-- the String at a is Latin-1 over a new byte[] (the heap's one new cell): the low bytes of the len chars of A from o on; every cell but a is kept -/
def Got (a : Addr) (D : Cell) (fV fC : Field) (A : Cell) (o len : Nat) (r : Option Value) (s u : State) : Prop := r = none ∧ ∃ D' V : Cell, Blank "java/lang/String" a D' u ∧ Same D D' [fV.slot, fC.slot] ∧ D'.slots[fV.slot]? = some (.ref s.heap.size) ∧ D'.slots[fC.slot]? = some (.int 0) ∧ Arr .byte s.heap.size V u ∧ V.vm = .none ∧ u.vm.findClass "[B" = some V.cls ∧ V.slots.size = len ∧ (∀ j, j < len → V.slots[j]? = some (.int (lo8 (cv A (o + j))))) ∧ (∀ (y : Addr) (c : Cell), y ≠ a → s.heap[y]? = some c → u.heap[y]? = some c) ∧ u.heap.size = s.heap.size + 1
theorem Got.mv {a : Addr} {D A : Cell} {fV fC : Field} {o len : Nat} : ∀ r (U U' V V' : State), U'.heap = U.heap → V.vm.Alike V'.vm → V'.heap = V.heap → Got a D fV fC A o len r U V → Got a D fV fC A o len r U' V' :=
  fun r U U' V V' h1 hal h2 ⟨e0, D', X, a1, a2, a3, a4, a5, a6, a7, a8, a9, a10, a11⟩ => ⟨e0, D', X, a1.mv hal h2, a2, by rw [h1]; exact a3, a4, by rw [h1]; exact a5.mv hal h2, a6, by rw [hal.findClass]; exact a7, a8, a9, by rw [h1, h2]; exact a10, by rw [h1, h2]; exact a11⟩
namespace New4
def yN : MethodName := ⟨"java/lang/String", "<init>", "([CIILjava/lang/Void;)V"⟩
abbrev yB : ByteArray := jdk_42_method_149_code
theorem d0 : decode yB 0 = .ok (.aload_n 0, 1) := by decide +kernel
theorem d1 : decode yB 1 = .ok (.invokespecial 1, 3) := by decide +kernel
theorem d4 : decode yB 4 = .ok (.iload_n 3, 1) := by decide +kernel
theorem d5 : decode yB 5 = .ok (.ifCond (.ne) 22, 3) := by decide +kernel
theorem d27 : decode yB 27 = .ok (.getstatic 38, 3) := by decide +kernel
theorem d30 : decode yB 30 = .ok (.ifCond (.eq) 28, 3) := by decide +kernel
theorem d33 : decode yB 33 = .ok (.aload_n 1, 1) := by decide +kernel
theorem d34 : decode yB 34 = .ok (.iload_n 2, 1) := by decide +kernel
theorem d35 : decode yB 35 = .ok (.iload_n 3, 1) := by decide +kernel
theorem d36 : decode yB 36 = .ok (.invokestatic 177, 3) := by decide +kernel
theorem d39 : decode yB 39 = .ok (.astore 5, 2) := by decide +kernel
theorem d41 : decode yB 41 = .ok (.aload_n 0, 1) := by decide +kernel
theorem d42 : decode yB 42 = .ok (.aload 5, 2) := by decide +kernel
theorem d44 : decode yB 44 = .ok (.iload_n 3, 1) := by decide +kernel
theorem d45 : decode yB 45 = .ok (.invokestatic 47, 3) := by decide +kernel
theorem d48 : decode yB 48 = .ok (.putfield 15, 3) := by decide +kernel
theorem d51 : decode yB 51 = .ok (.aload_n 0, 1) := by decide +kernel
theorem d52 : decode yB 52 = .ok (.aload 5, 2) := by decide +kernel
theorem d54 : decode yB 54 = .ok (.putfield 9, 3) := by decide +kernel
theorem d57 : decode yB 57 = .ok (.return_, 1) := by decide +kernel
def site : List Cond := [.fieldLink "java/lang/String" 38 "java/lang/String" "COMPACT_STRINGS" "Z", Cmp3.tab, CodL.tab, .laysFinal "java/lang/String" "java/lang/String" "value" "[B", .fieldLink "java/lang/String" 9 "java/lang/String" "value" "[B", .laysFinal "java/lang/String" "java/lang/String" "coder" "B", .fieldLink "java/lang/String" 15 "java/lang/String" "coder" "B"] ++ objW "java/lang/String" 1 ++ staticW "java/lang/String" 177 Cmp3.yN ++ staticW "java/lang/String" 47 CodL.yN
def tab : Cond := tabOf yN yB 6 none site
def P (a : Addr) (D : Cell) (fV fC : Field) (b : Addr) (A : Cell) (z : Int32) (o len : Nat) (args : Array Value) (s : State) : Prop := args = #[.ref a, .ref b, .int (Int32.ofNat o), .int (Int32.ofNat len), .null] ∧ Blank "java/lang/String" a D s ∧ Found "java/lang/String" "value" "[B" fV s ∧ Found "java/lang/String" "coder" "B" fC s ∧ Ch b A s ∧ StaticIs s "java/lang/String" "COMPACT_STRINGS" "Z" (.int z) ∧ ¬ z = 0 ∧ 0 < len ∧ o + len ≤ A.slots.size ∧ len ≤ 536870912 ∧ ∀ i, i < len → ¬ 255 < cv A (o + i)
def E (a : Addr) (D : Cell) (fV fC : Field) (A : Cell) (o len : Nat) (r : Option Value) (s u : State) : Prop := Got a D fV fC A o len r s u
/-- len > 0, no char of the range above 255: a Latin-1 String of their low bytes -/
theorem law (l : Launch) (a : Addr) (D : Cell) (fV fC : Field) (b : Addr) (A : Cell) (z : Int32) (o len : Nat) : Law l yN 5 4 2 35 yB 6 none site (P a D fV fC b A z o len) (E a D fV fC A o len) [⟨a, fC.slot⟩, ⟨a, fV.slot⟩] 1 len := by
  refine Law.of_walk (plainFor_of_name (by decide +kernel)) (by decide +kernel) (by decide +kernel) (by decide) (fun _ _ h => by rw [h.1]; rfl) (fun _ U U' hal hh h => ⟨h.1, h.2.1.mv hal hh, h.2.2.1.al hal, h.2.2.2.1.al hal, h.2.2.2.2.1.mv hal hh, h.2.2.2.2.2.1.there hal hh, h.2.2.2.2.2.2⟩) (fun r U U' V V' h1 hal h2 h => Got.mv r U U' V V' h1 hal h2 h) ?_
  intro p e s m args below meth c s₁ X0 hexec hbytes hml hret hlk hnm hown hh0 W hP
  obtain ⟨rfl, hB, f1, f2, hA, s1, hz, l0, l1, l2, hp⟩ := hP
  have a31 := hA.1.2.2.2
  have c1 : Steps p.tables e below (s₁.setTop (entryFrame m #[.ref a, .ref b, .int (Int32.ofNat o), .int (Int32.ofNat len), .null] 6)) (s₁.setTop (mkF m 0 #[.val (.ref a), .val (.ref b), .val (.int (Int32.ofNat o)), .val (.int (Int32.ofNat len)), .val .null, .unset] [])) := entry rfl
  have c2 : Steps p.tables e below (s₁.setTop (entryFrame m #[.ref a, .ref b, .int (Int32.ofNat o), .int (Int32.ofNat len), .null] 6)) (s₁.setTop (mkF m 1 #[.val (.ref a), .val (.ref b), .val (.int (Int32.ofNat o)), .val (.int (Int32.ofNat len)), .val .null, .unset] [.ref a])) := c1.trans (by
    refine XS.aloadN X0.here hexec rfl (hb hbytes d0) rfl rfl ?_
    exact Steps.refl _)
  obtain ⟨T3, X3, q3, st3⟩ := X0.oinit hexec hown (wks W (objW "java/lang/String" 1)) (g := (mkF m 1 #[.val (.ref a), .val (.ref b), .val (.int (Int32.ofNat o)), .val (.int (Int32.ofNat len)), .val .null, .unset] [.ref a])) rfl (by rw [hml]; rfl) (rest := []) rfl (hb hbytes d1) (W := 0) (by show 2 * 0 + 0 ≤ _; decide) (Nat.le_of_ble_eq_true rfl) (Nat.le_of_ble_eq_true rfl)
  have hh3 := q3.trans hh0
  have c4 : Steps p.tables e below (s₁.setTop (entryFrame m #[.ref a, .ref b, .int (Int32.ofNat o), .int (Int32.ofNat len), .null] 6)) (T3.setTop (mkF m 27 #[.val (.ref a), .val (.ref b), .val (.int (Int32.ofNat o)), .val (.int (Int32.ofNat len)), .val .null, .unset] [])) := (c2.trans (st3 _ (Steps.refl _))).trans (by
    refine XS.iloadN X3.here hexec rfl (hb hbytes d4) rfl ?_
    refine XS.ifYes X3.here hexec rfl (pc0 := 5) rfl (hb hbytes d5) rfl (i0_ne_t (nz32 (by omega) l0)) (by decide) rfl ?_
    exact Steps.refl _)
  obtain ⟨T5, X5, q5, st5⟩ := X3.sget hexec hown (wk W (.fieldLink "java/lang/String" 38 "java/lang/String" "COMPACT_STRINGS" "Z")) s1 (fun _ _ h => by rw [hh3]; exact h) (g := (mkF m 27 #[.val (.ref a), .val (.ref b), .val (.int (Int32.ofNat o)), .val (.int (Int32.ofNat len)), .val .null, .unset] [])) rfl (hb hbytes d27)
  have hh5 := q5.trans hh3
  have c6 : Steps p.tables e below (s₁.setTop (entryFrame m #[.ref a, .ref b, .int (Int32.ofNat o), .int (Int32.ofNat len), .null] 6)) (T5.setTop (mkF m 30 #[.val (.ref a), .val (.ref b), .val (.int (Int32.ofNat o)), .val (.int (Int32.ofNat len)), .val .null, .unset] [.int z])) := c4.trans (st5 _ (Steps.refl _))
  have c7 : Steps p.tables e below (s₁.setTop (entryFrame m #[.ref a, .ref b, .int (Int32.ofNat o), .int (Int32.ofNat len), .null] 6)) (T5.setTop (mkF m 36 #[.val (.ref a), .val (.ref b), .val (.int (Int32.ofNat o)), .val (.int (Int32.ofNat len)), .val .null, .unset] [.int (Int32.ofNat len), .int (Int32.ofNat o), .ref b])) := c6.trans (by
    refine XS.ifNo X5.here hexec rfl (hb hbytes d30) rfl (i0_eq_f hz) ?_
    refine XS.aloadN X5.here hexec rfl (hb hbytes d33) rfl rfl ?_
    refine XS.iloadN X5.here hexec rfl (hb hbytes d34) rfl ?_
    refine XS.iloadN X5.here hexec rfl (hb hbytes d35) rfl ?_
    exact Steps.refl _)
  obtain ⟨v8, T8, X8, E8, g8⟩ := X5.callS hexec (Cmp3.law l b A o len) hown (wks W (staticW "java/lang/String" 177 Cmp3.yN)) (wk W Cmp3.tab) (W := 0) (Nat.le_of_ble_eq_true rfl) (Nat.le_of_ble_eq_true rfl) (Nat.le_refl _) (by show 0 + len ≤ len; omega) (g := (mkF m 36 #[.val (.ref a), .val (.ref b), .val (.int (Int32.ofNat o)), .val (.int (Int32.ofNat len)), .val .null, .unset] [.int (Int32.ofNat len), .int (Int32.ofNat o), .ref b])) rfl (by rw [hml]; rfl) c7 (argsL := [.ref b, .int (Int32.ofNat o), .int (Int32.ofNat len)]) (rest := []) rfl rfl (by show 2 * 0 + 0 ≤ _; decide) (hb hbytes d36) (⟨rfl, hA.mv X5.warmed.alike hh5, l1, l2, hp⟩)
  obtain ⟨e8, z8⟩ := E8
  obtain ⟨rfl, N, n1, n2, n3, n4, n5, n6⟩ := NewArr.mv _ T5 s _ _ hh5.symm (Vm.Alike.refl _) rfl e8
  rw [hh5] at z8
  have hB1 := hB.keep X8.warmed.alike (n6 _ _ hB.1)
  have hne : s.heap.size ≠ a := (Nat.ne_of_lt (Array.getElem?_eq_some_iff.mp hB.1).1).symm
  have c9 : Steps p.tables e below (s₁.setTop (entryFrame m #[.ref a, .ref b, .int (Int32.ofNat o), .int (Int32.ofNat len), .null] 6)) (T8.setTop (mkF m 39 #[.val (.ref a), .val (.ref b), .val (.int (Int32.ofNat o)), .val (.int (Int32.ofNat len)), .val .null, .unset] [.ref s.heap.size])) := g8
  have c10 : Steps p.tables e below (s₁.setTop (entryFrame m #[.ref a, .ref b, .int (Int32.ofNat o), .int (Int32.ofNat len), .null] 6)) (T8.setTop (mkF m 45 #[.val (.ref a), .val (.ref b), .val (.int (Int32.ofNat o)), .val (.int (Int32.ofNat len)), .val .null, .val (.ref s.heap.size)] [.int (Int32.ofNat N.slots.size), .ref s.heap.size, .ref a])) := by
    have hc : Steps p.tables e below (s₁.setTop (entryFrame m #[.ref a, .ref b, .int (Int32.ofNat o), .int (Int32.ofNat len), .null] 6)) (T8.setTop (mkF m 45 #[.val (.ref a), .val (.ref b), .val (.int (Int32.ofNat o)), .val (.int (Int32.ofNat len)), .val .null, .val (.ref s.heap.size)] [.int (Int32.ofNat len), .ref s.heap.size, .ref a])) := c9.trans (by
      refine XS.astore X8.here hexec rfl (hb hbytes d39) rfl rfl rfl ?_
      refine XS.aloadN X8.here hexec rfl (hb hbytes d41) rfl rfl ?_
      refine XS.aload X8.here hexec rfl (hb hbytes d42) rfl rfl ?_
      refine XS.iloadN X8.here hexec rfl (hb hbytes d44) rfl ?_
      exact Steps.refl _)
    rw [n4]; exact hc
  obtain ⟨v11, T11, X11, E11, g11⟩ := X8.callS hexec (CodL.law l s.heap.size N) hown (wks W (staticW "java/lang/String" 47 CodL.yN)) (wk W CodL.tab) (W := 1) (Nat.le_of_ble_eq_true rfl) (Nat.le_of_ble_eq_true rfl) (Nat.le_refl _) (by show 0 + len + 0 ≤ len; omega) (g := (mkF m 45 #[.val (.ref a), .val (.ref b), .val (.int (Int32.ofNat o)), .val (.int (Int32.ofNat len)), .val .null, .val (.ref s.heap.size)] [.int (Int32.ofNat N.slots.size), .ref s.heap.size, .ref a])) rfl (by rw [hml]; rfl) c10 (argsL := [.ref s.heap.size, .int (Int32.ofNat N.slots.size)]) (rest := [.ref a]) rfl rfl (by show 2 * 0 + (1 + 0) ≤ _; decide) (hb hbytes d45) (⟨rfl, n1⟩)
  obtain ⟨rfl, q11⟩ := E11
  have hB11 := hB1.mv (X8.warmed.alike.symm.trans X11.warmed.alike) q11
  have c12 : Steps p.tables e below (s₁.setTop (entryFrame m #[.ref a, .ref b, .int (Int32.ofNat o), .int (Int32.ofNat len), .null] 6)) (T11.setTop (mkF m 48 #[.val (.ref a), .val (.ref b), .val (.int (Int32.ofNat o)), .val (.int (Int32.ofNat len)), .val .null, .val (.ref s.heap.size)] [.int 0, .ref a])) := g11
  obtain ⟨T13, X13, p13, bl13, sl13, st13⟩ := X11.finit hexec hown (wk W (.fieldLink "java/lang/String" 15 "java/lang/String" "coder" "B")) (Or.inr ⟨_, (wk W (.laysFinal "java/lang/String" "java/lang/String" "coder" "B"))⟩) (Or.inl ⟨rfl, hnm⟩) f2 (Or.inl rfl) hB11 (t := .byte) (by decide +kernel) rfl (g := (mkF m 48 #[.val (.ref a), .val (.ref b), .val (.int (Int32.ofNat o)), .val (.int (Int32.ofNat len)), .val .null, .val (.ref s.heap.size)] [.int 0, .ref a])) rfl (rest := []) rfl (hb hbytes d48)
  have c14 : Steps p.tables e below (s₁.setTop (entryFrame m #[.ref a, .ref b, .int (Int32.ofNat o), .int (Int32.ofNat len), .null] 6)) (T13.setTop (mkF m 54 #[.val (.ref a), .val (.ref b), .val (.int (Int32.ofNat o)), .val (.int (Int32.ofNat len)), .val .null, .val (.ref s.heap.size)] [.ref s.heap.size, .ref a])) := (c12.trans (st13 _ (Steps.refl _))).trans (by
    refine XS.aloadN X13.here hexec rfl (hb hbytes d51) rfl rfl ?_
    refine XS.aload X13.here hexec rfl (hb hbytes d52) rfl rfl ?_
    exact Steps.refl _)
  obtain ⟨T15, X15, p15, bl15, sl15, st15⟩ := X13.finit hexec hown (wk W (.fieldLink "java/lang/String" 9 "java/lang/String" "value" "[B")) (Or.inr ⟨_, (wk W (.laysFinal "java/lang/String" "java/lang/String" "value" "[B"))⟩) (Or.inl ⟨rfl, hnm⟩) f1 (Or.inl rfl) bl13 (t := (.array .byte)) (by decide +kernel) rfl (g := (mkF m 54 #[.val (.ref a), .val (.ref b), .val (.int (Int32.ofNat o)), .val (.int (Int32.ofNat len)), .val .null, .val (.ref s.heap.size)] [.ref s.heap.size, .ref a])) rfl (rest := []) rfl (hb hbytes d54)
  have c16 : Steps p.tables e below (s₁.setTop (entryFrame m #[.ref a, .ref b, .int (Int32.ofNat o), .int (Int32.ofNat len), .null] 6)) (T15.setTop (mkF m 57 #[.val (.ref a), .val (.ref b), .val (.int (Int32.ofNat o)), .val (.int (Int32.ofNat len)), .val .null, .val (.ref s.heap.size)] [])) := c14.trans (st15 _ (Steps.refl _))
  have ap := apart (Or.inr ⟨_, (wk W (.laysFinal "java/lang/String" "java/lang/String" "value" "[B"))⟩) (Or.inr ⟨_, (wk W (.laysFinal "java/lang/String" "java/lang/String" "coder" "B"))⟩) f1 f2 (t₁ := .array .byte) (t₂ := .byte) (by decide +kernel) (by decide +kernel) (by decide)
  have al := X8.warmed.alike.symm.trans X15.warmed.alike
  have n7 : T11.heap[s.heap.size]? = some N := by rw [q11]; exact n1.1
  exact ⟨T15, none, _, _, _, X15, by simp, rfl, by omega, (fun _ => rfl), ⟨rfl, _, N, bl15, ((Same.refl D _).set _ (by simp)).set _ (by simp), sl15, (Cell.slots_setSlot_ne _ ap).trans sl13, n1.keep al (p15.other hne (p13.other hne n7)), n2, by rw [al.findClass]; exact n3, n4, n5, fun y c h1 h2 => p15.other h1 (p13.other h1 (by rw [q11]; exact n6 y c h2)), by rw [p15.2.2, p13.2.2, q11]; exact z8⟩, fun fs hl => c16.trans (X15.returnOut hexec hret (hb hbytes d57) hl)⟩
end New4
namespace New1
def yN : MethodName := ⟨"java/lang/String", "<init>", "([C)V"⟩
abbrev yB : ByteArray := jdk_42_method_3_code
theorem d0 : decode yB 0 = .ok (.aload_n 0, 1) := by decide +kernel
theorem d1 : decode yB 1 = .ok (.aload_n 1, 1) := by decide +kernel
theorem d2 : decode yB 2 = .ok (.iconst 0, 1) := by decide +kernel
theorem d3 : decode yB 3 = .ok (.aload_n 1, 1) := by decide +kernel
theorem d4 : decode yB 4 = .ok (.arraylength, 1) := by decide +kernel
theorem d5 : decode yB 5 = .ok (.aconst_null, 1) := by decide +kernel
theorem d6 : decode yB 6 = .ok (.invokespecial 27, 3) := by decide +kernel
theorem d9 : decode yB 9 = .ok (.return_, 1) := by decide +kernel
def site : List Cond := [New4.tab] ++ initW "java/lang/String" 27 New4.yN
def tab : Cond := tabOf yN yB 2 none site
def P (a : Addr) (D : Cell) (fV fC : Field) (b : Addr) (A : Cell) (z : Int32) (args : Array Value) (s : State) : Prop := args = #[.ref a, .ref b] ∧ Blank "java/lang/String" a D s ∧ Found "java/lang/String" "value" "[B" fV s ∧ Found "java/lang/String" "coder" "B" fC s ∧ Ch b A s ∧ StaticIs s "java/lang/String" "COMPACT_STRINGS" "Z" (.int z) ∧ ¬ z = 0 ∧ 0 < A.slots.size ∧ A.slots.size ≤ 536870912 ∧ ∀ i, i < A.slots.size → ¬ 255 < cv A i
def E (a : Addr) (D : Cell) (fV fC : Field) (A : Cell) (r : Option Value) (s u : State) : Prop := Got a D fV fC A 0 A.slots.size r s u
/-- new String(chars), not empty, no char above 255: a Latin-1 String of their low bytes -/
theorem law (l : Launch) (a : Addr) (D : Cell) (fV fC : Field) (b : Addr) (A : Cell) (z : Int32) : Law l yN 2 1 3 52 yB 2 none site (P a D fV fC b A z) (E a D fV fC A) [⟨a, fC.slot⟩, ⟨a, fV.slot⟩] 1 A.slots.size := by
  refine Law.of_walk (plainFor_of_name (by decide +kernel)) (by decide +kernel) (by decide +kernel) (by decide) (fun _ _ h => by rw [h.1]; rfl) (fun _ U U' hal hh h => ⟨h.1, h.2.1.mv hal hh, h.2.2.1.al hal, h.2.2.2.1.al hal, h.2.2.2.2.1.mv hal hh, h.2.2.2.2.2.1.there hal hh, h.2.2.2.2.2.2⟩) (fun r U U' V V' h1 hal h2 h => Got.mv r U U' V V' h1 hal h2 h) ?_
  intro p e s m args below meth c s₁ X0 hexec hbytes hml hret hlk hnm hown hh0 W hP
  obtain ⟨rfl, hB, f1, f2, hA, s1, hz, l0, l2, hp⟩ := hP
  have c1 : Steps p.tables e below (s₁.setTop (entryFrame m #[.ref a, .ref b] 2)) (s₁.setTop (mkF m 0 #[.val (.ref a), .val (.ref b)] [])) := entry rfl
  have c2 : Steps p.tables e below (s₁.setTop (entryFrame m #[.ref a, .ref b] 2)) (s₁.setTop (mkF m 6 #[.val (.ref a), .val (.ref b)] [.null, .int (Int32.ofNat A.slots.size), .int 0, .ref b, .ref a])) := c1.trans (by
    refine XS.aloadN X0.here hexec rfl (hb hbytes d0) rfl rfl ?_
    refine XS.aloadN X0.here hexec rfl (hb hbytes d1) rfl rfl ?_
    refine iconstV X0.here hexec rfl 0 (hb hbytes d2) (by decide) ?_
    refine XS.aloadN X0.here hexec rfl (hb hbytes d3) rfl rfl ?_
    refine X0.alen hexec (hA.1.mv X0.warmed.alike hh0) rfl rfl (hb hbytes d4) ?_
    refine XS.aconstNull X0.here hexec rfl (hb hbytes d5) ?_
    exact Steps.refl _)
  obtain ⟨v3, T3, X3, E3, g3⟩ := X0.callN hexec (New4.law l a D fV fC b A z 0 A.slots.size) rfl hown (wks W (initW "java/lang/String" 27 New4.yN)) (W New4.tab (by simp only [site, List.mem_cons, List.mem_append, true_or, or_true])) (W := 0) (Nat.le_of_ble_eq_true rfl) (Nat.le_of_ble_eq_true rfl) (Nat.le_refl _) (by show 0 + A.slots.size ≤ A.slots.size; omega) (g := (mkF m 6 #[.val (.ref a), .val (.ref b)] [.null, .int (Int32.ofNat A.slots.size), .int (Int32.ofNat 0), .ref b, .ref a])) rfl (by rw [hml]; rfl) c2 (argsL := [.ref b, .int (Int32.ofNat 0), .int (Int32.ofNat A.slots.size), .null]) (rest := []) rfl rfl (by show 2 * 0 + 0 ≤ _; decide) (hb hbytes d6) (⟨rfl, hB.mv X0.warmed.alike hh0, f1.al X0.warmed.alike, f2.al X0.warmed.alike, hA.mv X0.warmed.alike hh0, s1.there X0.warmed.alike hh0, hz, l0, by omega, l2, fun i hi => by rw [Nat.zero_add]; exact hp i hi⟩)
  have e0 := Got.mv _ s₁ s _ _ hh0.symm (Vm.Alike.refl _) rfl E3
  obtain rfl := e0.1
  have c4 : Steps p.tables e below (s₁.setTop (entryFrame m #[.ref a, .ref b] 2)) (T3.setTop (mkF m 9 #[.val (.ref a), .val (.ref b)] [])) := g3
  exact ⟨T3, none, _, _, _, X3, by simp, rfl, by omega, (fun _ => rfl), e0, fun fs hl => c4.trans (X3.returnOut hexec hret (hb hbytes d9) hl)⟩
theorem pays {l : Launch} {R : Room} {p : Program} {e : Env} {below : List Frame} {s : State} {sargs : Array Value} {len W : Nat} (a : Addr) (D : Cell) (fV fC : Field) (b : Addr) (A : Cell) (z : Int32) (htab : tab.before sargs s = true) (hfr : 4 ≤ R.frames) (hlo : W + 65 ≤ R.locals) :
    Back l R p e below s sargs yN len W (fun A₁ a₁ => A₁.cells + 1 ≤ R.cells ∧ A₁.slots + A.slots.size ≤ R.slots ∧ P a D fV fC b A z a₁ A₁.U) (fun A₁ _ v₁ B₁ => E a D fV fC A v₁ A₁.U B₁.U ∧ B₁.locs = A₁.locs ++ [⟨a, fC.slot⟩, ⟨a, fV.slot⟩] ∧ B₁.cells = A₁.cells + 1 ∧ B₁.slots = A₁.slots + A.slots.size) :=
  (law l a D fV fC b A z).pays htab hfr (by omega)
end New1
end StrChars
namespace StrChars.Road
open Jvm Sem ClassFile Op Lib Jvm.Stand Jvm.Free Jvm.Free.XT
open Jvm.Lib.Cold (StaticIs)
abbrev ST : String := "java/lang/String"
/-- every table word that New1's law asks, flat -/
abbrev words : List Jvm.Cond := [.code New1.yN New1.yB 2 none, .initialized ST, .methodLink ST 27 New4.yN, .instanceMethod New4.yN,
  .code New4.yN New4.yB 6 none, .fieldLink ST 38 ST "COMPACT_STRINGS" "Z", .laysFinal ST ST "value" "[B", .fieldLink ST 9 ST "value" "[B", .laysFinal ST ST "coder" "B", .fieldLink ST 15 ST "coder" "B",
  .methodLink ST 1 Lib.objectInit, .instanceMethod Lib.objectInit, .code Lib.objectInit ⟨#[0xb1]⟩ 1 none, .methodLink ST 177 Cmp3.yN, .static Cmp3.yN, .methodLink ST 47 CodL.yN, .static CodL.yN,
  .code Cmp3.yN Cmp3.yB 6 (some (.array .byte)), .initialized U16, .arrayClass .byte, .methodLink U16 115 Cmp5.yN, .static Cmp5.yN, .code Cmp5.yN Cmp5.yB 7 (some .int), .code CodL.yN CodL.yB 2 (some .byte)]
theorem tab_of {a : Array Value} {s : State} (h : ∀ w ∈ words, w.before a s = true) : New1.tab.before a s = true := by
  have h5 : Cmp5.tab.before a s = true := unparts (wk h (.code Cmp5.yN Cmp5.yB 7 (some .int))) (wks h (.initialized Cmp5.yN.cls :: Cmp5.site))
  have hc : CodL.tab.before a s = true := unparts (wk h (.code CodL.yN CodL.yB 2 (some .byte))) (wks h (.initialized CodL.yN.cls :: CodL.site))
  have q5 : ∀ w ∈ Cmp5.tab :: words, w.before a s = true := fun w hw => (List.mem_cons.mp hw).elim (fun e => e ▸ h5) (h w)
  have h3 : Cmp3.tab.before a s = true := unparts (wk q5 (.code Cmp3.yN Cmp3.yB 6 (some (.array .byte)))) (wks q5 (.initialized Cmp3.yN.cls :: Cmp3.site))
  have q3 : ∀ w ∈ Cmp3.tab :: CodL.tab :: words, w.before a s = true := fun w hw => (List.mem_cons.mp hw).elim (fun e => e ▸ h3) fun hw => (List.mem_cons.mp hw).elim (fun e => e ▸ hc) (h w)
  have h4 : New4.tab.before a s = true := unparts (wk q3 (.code New4.yN New4.yB 6 none)) (wks q3 (.initialized New4.yN.cls :: New4.site))
  have q4 : ∀ w ∈ New4.tab :: words, w.before a s = true := fun w hw => (List.mem_cons.mp hw).elim (fun e => e ▸ h4) (h w)
  exact unparts (wk q4 (.code New1.yN New1.yB 2 none)) (wks q4 (.initialized New1.yN.cls :: New1.site))
/-- the words ride from the start Z to the walk's own state -/
theorem moved {Z s : State} {a0 args : Array Value} (hZ : Z.Warmed39 s.vm) (hw : ∀ d ∈ words, d.before a0 Z = true) : ∀ d ∈ words, d.before args s = true := fun d hd => by
  have q := hw d hd
  have t : ∀ d ∈ words, d = .arrayClass .byte ∨ (d.onTables && d.keepsFace) = true := by decide +kernel
  rcases t d hd with rfl | t
  · exact RoadKit.mvA hZ q
  · exact RoadKit.mv hZ q t
/-- WHAT COMES BACK, over the tables of the start Z: h the heap at the call, h' behind it -/
def Q (Z : State) (x : Addr) (A : Cell) (h : Heap) (v : Option Value) (h' : Heap) (L : List Loc) : Prop := v = none ∧ (∀ y ∈ L, y.base = x) ∧ RoadKit.Keep h h' [x] ∧ h'.size = h.size + 1 ∧ RoadKit.Exa Z h' x ST ∧ RoadKit.Fld Z h' x ST "value" "[B" (.ref h.size) ∧ RoadKit.Fld Z h' x ST "coder" "B" (.int 0) ∧
  (∃ V : Cell, RoadKit.Arr Z h' h.size V .byte ∧ V.vm = .none ∧ Z.vm.findClass "[B" = some V.cls ∧ V.slots.size = A.slots.size ∧ ∀ j, j < A.slots.size → V.slots[j]? = some (.int (lo8 (cv A j)))) ∧
  ∀ (O n d : String) (w : Value), RoadKit.Fld Z h x O n d w → RoadKit.slotOf Z O n d ≠ RoadKit.slotOf Z ST "value" "[B" → RoadKit.slotOf Z O n d ≠ RoadKit.slotOf Z ST "coder" "B" → RoadKit.Fld Z h' x O n d w
/-- **new String(chars) AT A CALL, IN THE ROAD'S FORM**: for specialBack behind newO: x the fresh String, b the char[] with the cell A -/
theorem back {p : Program} {l : Launch} {e : Env} {R : Room} {s : State} {args : Array Value} {below : List Frame} {len W : Nat} {Z : State} {a0 : Array Value} {h : Heap} (hZ : Z.Warmed39 s.vm) (hw : ∀ d ∈ words, d.before a0 Z = true) {kI : Nat} (wi : (Jvm.Cond.instantiable ST kI).before a0 Z = true)
    {x b : Addr} {A : Cell} {z : Int32} {v0 c0 : Value} (E : RoadKit.Exa Z h x ST) (V : RoadKit.Fld Z h x ST "value" "[B" v0) (C : RoadKit.Fld Z h x ST "coder" "B" c0) (K : RoadKit.Arr Z h b A .char) (hty : Typed .char A) (S : RoadKit.Sta Z h ST "COMPACT_STRINGS" "Z" (.int z)) (hz : ¬ z = 0)
    (l0 : 0 < A.slots.size) (l2 : A.slots.size ≤ 536870912) (hp : ∀ i, i < A.slots.size → ¬ 255 < cv A i) (hfr : 4 ≤ R.frames) (hlo : W + 65 ≤ R.locals) :
    Back l R p e below s args New1.yN len W (fun P a => a = #[.ref x, .ref b] ∧ P.U.heap = h ∧ P.cells + 1 ≤ R.cells ∧ P.slots + A.slots.size ≤ R.slots)
      (fun P _ v B => ∃ L, Q Z x A h v B.U.heap L ∧ B.locs = P.locs ++ L ∧ B.cells = P.cells + 1 ∧ B.slots = P.slots + A.slots.size) := by
  intro m meth c P g ig mk a X hg hsize hdg hW hn hp'
  obtain ⟨rfl, rfl, r1, r2⟩ := hp'
  have al : Z.vm.Alike P.U.vm := hZ.alike.trans X.warmed.alike
  obtain ⟨D, cfV, kV, iV, fV, hD, gV, stV, knV, obV, asV, slV⟩ := id V
  obtain ⟨D', cfC, kC, iC, fC, hD', gC, stC, -, -, asC, slC⟩ := id C
  cases hD.symm.trans hD'
  obtain ⟨D2, kD, e1, e2, e3, e4, e5⟩ := id E
  cases hD.symm.trans e1
  obtain ⟨c2, k2, i1, i2, i3, -⟩ := Cond.instantiable_spec wi
  cases e2.symm.trans i1
  cases e3.symm.trans i2
  obtain ⟨kU, u1, u2⟩ := al.2.2 _ _ e3
  have hB : Blank ST x D P.U := ⟨hD, ⟨knV, fun q hq => by rw [hq] at obV; cases obV⟩, by rw [al.findClass]; exact e2, kU, u1, by rw [u2]; exact i3, by rw [u2]; exact e5 i3⟩
  have F1 : Found ST "value" "[B" fV P.U := ⟨SBG.found_only al ⟨cfV, kV, iV, gV⟩, stV⟩
  have F2 : Found ST "coder" "B" fC P.U := ⟨SBG.found_only al ⟨cfC, kC, iC, gC⟩, stC⟩
  have hA : Ch b A P.U := ⟨⟨K.1, State.isArrayOf_alike al K.2.1, K.2.2, by omega⟩, hty⟩
  have hS : StaticIs P.U ST "COMPACT_STRINGS" "Z" (.int z) := by
    obtain ⟨cfS, iS, kS, fS, st, cS, t1, t2, t3, t4, t5, t6, t7⟩ := S
    exact StaticIs.there (s := { Z with heap := P.U.heap }) ⟨cfS, iS, kS, fS, st, cS, t1, t2, t3, t4, t5, (fun q => by rw [q] at t6; cases t6), t7⟩ al rfl
  obtain ⟨v, B, X', ⟨⟨hv, E', V', q1, q2, q3, q4, q5, q6, q7, q8, q9, q10, q11⟩, hl, hc, hs⟩, st⟩ := New1.pays x D fV fC b A z (tab_of (moved hZ hw)) hfr hlo m meth c P g ig mk _ X hg hsize hdg hW hn ⟨r1, r2, rfl, hB, F1, F2, hA, hS, hz, l0, l2, hp⟩
  have al' : Z.vm.Alike B.U.vm := hZ.alike.trans X'.warmed.alike
  have hsz : E'.slots.size = D.slots.size := by
    obtain ⟨-, -, -, kB, w1, w2, w3⟩ := q1
    obtain ⟨kB', y1, y2⟩ := al'.2.2 _ _ e3
    rw [q2.2.1] at w1
    cases w1.symm.trans y1
    rw [w3, e5 i3, y2]
  refine ⟨v, B, X', ⟨_, ⟨hv, ?_, ⟨by omega, fun y cy hy hn' => q10 y cy (by simpa using hn') hy, fun y cy hy => ?_⟩, q11, ⟨E', _, q1.1, by rw [q2.2.1]; exact e2, by rw [q2.2.1]; exact e3, by rw [q2.1]; exact obV, fun _ => by rw [hsz]; exact e5 i3⟩,
    ⟨E', cfV, kV, iV, fV, q1.1, gV, stV, by rw [q2.1]; exact knV, by rw [q2.1]; exact obV, by rw [q2.2.1]; exact asV, q3⟩, ⟨E', cfC, kC, iC, fC, q1.1, gC, stC, by rw [q2.1]; exact knV, by rw [q2.1]; exact obV, by rw [q2.2.1]; exact asC, q4⟩,
    ⟨V', ⟨q5.1, State.isArrayOf_alike al'.symm q5.2.1, q5.2.2.1⟩, q6, by rw [← al'.findClass]; exact q7, q8, fun j hj => by have := q9 j hj; rwa [Nat.zero_add] at this⟩, fun O n d w F n1 n2 => ?_⟩, hl, hc, hs⟩, st⟩
  · intro y hy
    simp only [List.mem_cons, List.not_mem_nil, or_false] at hy
    rcases hy with rfl | rfl <;> rfl
  · by_cases q : y = x
    · subst q
      cases hD.symm.trans hy
      exact ⟨E', q1.1, q2.2.1, q2.1, hsz⟩
    · exact ⟨cy, q10 y cy q hy, rfl, rfl, rfl⟩
  · obtain ⟨D3, cf, k, i, f, g1, g2, g3, g4, g5, g6, g7⟩ := F
    cases hD.symm.trans g1
    simp only [RoadKit.slotOf, g2, gV, gC, Option.map_some, Option.getD_some] at n1 n2
    exact ⟨E', cf, k, i, f, q1.1, g2, g3, by rw [q2.1]; exact g4, by rw [q2.1]; exact g5, by rw [q2.2.1]; exact g6, by rw [q2.2.2 f.slot (by simp [n1, n2])]; exact g7⟩
end StrChars.Road
namespace StrChars.Road
open Jvm Sem ClassFile Op Lib Jvm.Stand Jvm.Free Jvm.Free.XT
/-- WHAT COMES BACK, the byte[] as a list of values -/
def QA (Z : State) (x : Addr) (zn : Int32) (cs : List Int32) (h : Heap) (v : Option Value) (h' : Heap) (L : List Loc) : Prop := v = none ∧ (∀ y ∈ L, y.base = x) ∧ RoadKit.Keep h h' [x] ∧ h'.size = h.size + 1 ∧ RoadKit.Exa Z h' x ST ∧ RoadKit.Fld Z h' x ST "value" "[B" (.ref h.size) ∧ RoadKit.Fld Z h' x ST "coder" "B" (.int 0) ∧
  (∃ kb, Z.vm.findClass "[B" = some kb ∧ RoadKit.Arv Z h' h.size kb .byte zn (cs.map fun c => .int (lo8 c)) (.int 0)) ∧
  ∀ (O n d : String) (w : Value), RoadKit.Fld Z h x O n d w → RoadKit.slotOf Z O n d ≠ RoadKit.slotOf Z ST "value" "[B" → RoadKit.slotOf Z O n d ≠ RoadKit.slotOf Z ST "coder" "B" → RoadKit.Fld Z h' x O n d w
/-- **new String(chars) AT A CALL, THE ARRAYS AS LISTS**: the char[] at b holds cs, not empty, no char above 255 -/
theorem backArv {p : Program} {l : Launch} {e : Env} {R : Room} {s : State} {args : Array Value} {below : List Frame} {len W : Nat} {Z : State} {a0 : Array Value} {h : Heap} (hZ : Z.Warmed39 s.vm) (hw : ∀ d ∈ words, d.before a0 Z = true) {kI : Nat} (wi : (Jvm.Cond.instantiable ST kI).before a0 Z = true)
    {x b : Addr} {k : ClassId} {zn z : Int32} {cs : List Int32} {dv v0 c0 : Value} (E : RoadKit.Exa Z h x ST) (V : RoadKit.Fld Z h x ST "value" "[B" v0) (C : RoadKit.Fld Z h x ST "coder" "B" c0) (K : RoadKit.Arv Z h b k .char zn (cs.map Value.int) dv) (S : RoadKit.Sta Z h ST "COMPACT_STRINGS" "Z" (.int z)) (hz : ¬ z = 0)
    (hlen : zn.toNatClampNeg = cs.length) (h0 : 0 < cs.length) (hbig : cs.length ≤ 536870912) (hall : ∀ c ∈ cs, ¬ 255 < c) (hfr : 4 ≤ R.frames) (hlo : W + 65 ≤ R.locals) :
    Back l R p e below s args New1.yN len W (fun P a => a = #[.ref x, .ref b] ∧ P.U.heap = h ∧ P.cells + 1 ≤ R.cells ∧ P.slots + cs.length ≤ R.slots)
      (fun P _ v B => ∃ L, QA Z x zn cs h v B.U.heap L ∧ B.locs = P.locs ++ L ∧ B.cells = P.cells + 1 ∧ B.slots = P.slots + cs.length) := by
  obtain ⟨A, K1, K2, K3, K4, K5, K6⟩ := K
  have e : A.slots.size = cs.length := K3.trans hlen
  have hat : ∀ (i : Nat) (hi : i < cs.length), A.slots[i]? = some (.int cs[i]) := fun i hi => by rw [K5 i (by omega)]; simp [List.getD_eq_getElem?_getD, hi]
  have hcv : ∀ (i : Nat) (hi : i < cs.length), cv A i = cs[i] := fun i hi => by unfold cv; rw [hat i hi]
  have hty : Typed .char A := fun i v hv => by
    have hi : i < A.slots.size := (Array.getElem?_eq_some_iff.mp hv).1
    have q := K5 i hi
    rw [hv] at q
    rw [Option.some.inj q]
    exact K6 i hi
  refine Back.mono (back hZ hw wi E V C K1 hty S hz (by omega) (by omega) (fun i hi => by rw [hcv i (by omega)]; exact hall _ (List.getElem_mem _)) hfr hlo) (fun P a hp => ⟨hp.1, hp.2.1, hp.2.2.1, by rw [e]; exact hp.2.2.2⟩) (fun P a v B hp hq => ?_)
  obtain ⟨L, ⟨q1, q2, q3, q4, q5, q6, q7, ⟨V', v1, v2, v3, v4, v5⟩, q9⟩, hl, hc, hs⟩ := hq
  refine ⟨L, ⟨q1, q2, q3, q4, q5, q6, q7, ⟨V'.cls, v3, V', v1, rfl, by rw [v4, e, hlen], K4, fun i hi => ?_, fun i hi => ?_⟩, q9⟩, hl, hc, by rw [hs, e]⟩
  · have hi' : i < cs.length := by omega
    rw [v5 i (by omega), hcv i hi']; simp [List.getD_eq_getElem?_getD, hi']
  · have hi' : i < cs.length := by omega
    simp only [List.getD_eq_getElem?_getD, List.getElem?_map, List.getElem?_eq_getElem hi', Option.map_some, Option.getD_some]
    exact fits_lo8 _
end StrChars.Road
namespace StrChars.Road
open Jvm Sem ClassFile Op Lib Jvm.Stand Jvm.Free Jvm.Free.XT
/-- WHAT COMES BACK, in the writer's own shape -/
def QV (Z : State) (x : Addr) (N : Int32) (bs : List Int32) (h : Heap) (n0 : Nat) (v : Option Value) (h' : Heap) (L : List Loc) : Prop := v = none ∧ RoadKit.Fr n0 L ∧ RoadKit.Keep h h' [x] ∧ RoadKit.Exa Z h' x ST ∧ RoadKit.Fld Z h' x ST "coder" "B" (.int 0) ∧
  ∃ (t : Addr) (kb : ClassId), n0 ≤ t ∧ h.size ≤ t ∧ ¬ t = x ∧ RoadKit.Fld Z h' x ST "value" "[B" (.ref t) ∧ RoadKit.Arv Z h' t kb .byte N (bs.map Value.int) (.int 0)
/-- **new String(chars) AT A CALL, FOR THE WRITER**: a char[] of n known ints, each 0 to 255 -/
theorem backV {p : Program} {l : Launch} {e : Env} {R : Room} {s : State} {args : Array Value} {below : List Frame} {len W : Nat} {Z : State} {a0 : Array Value} {h : Heap} (hZ : Z.Warmed39 s.vm) (hw : ∀ d ∈ words, d.before a0 Z = true) {kI : Nat} (wi : (Jvm.Cond.instantiable ST kI).before a0 Z = true)
    {x b : Addr} {kC : ClassId} {cs bs : List Int32} {d v0 c0 : Value} {z N : Int32} {n n0 : Nat} (hx0 : n0 ≤ x) (hh0 : n0 ≤ h.size) (E : RoadKit.Exa Z h x ST) (V : RoadKit.Fld Z h x ST "value" "[B" v0) (C : RoadKit.Fld Z h x ST "coder" "B" c0) (K : RoadKit.Arv Z h b kC .char N (cs.map Value.int) d) (S : RoadKit.Sta Z h ST "COMPACT_STRINGS" "Z" (.int z)) (hz : ¬ z = 0)
    (hn : cs.length = n) (hN : N = Int32.ofNat n) (l0 : 0 < n) (l2 : n ≤ 4000) (hp : ∀ c ∈ cs, ¬ c < 0 ∧ ¬ (255 : Int32) < c) (hb : bs = cs.map (fun c => c.toInt8.toInt32)) (hfr : 4 ≤ R.frames) (hlo : W + 65 ≤ R.locals) :
    Back l R p e below s args (⟨"java/lang/String", "<init>", "([C)V"⟩ : MethodName) len W (fun P a => a = #[.ref x, .ref b] ∧ P.U.heap = h ∧ P.cells + 1 ≤ R.cells ∧ P.slots + n ≤ R.slots)
      (fun P _ v B => ∃ L, QV Z x N bs h n0 v B.U.heap L ∧ B.locs = P.locs ++ L ∧ B.cells = P.cells + 1 ∧ B.slots = P.slots + n) := by
  subst hn hN hb
  refine Back.mono (backArv hZ hw wi E V C K S hz (n32 (by omega)) l0 (by omega) (fun c hc => (hp c hc).2) hfr hlo) (fun P a hp => hp) (fun P a v B hp hq => ?_)
  obtain ⟨L, ⟨q1, q2, q3, q4, q5, q6, q7, ⟨kb, v1, v2⟩, q9⟩, hl, hc, hs⟩ := hq
  exact ⟨L, ⟨q1, fun y hy => by rw [q2 y hy]; exact hx0, q3, q5, q7, h.size, kb, hh0, Nat.le_refl _, Nat.ne_of_gt E.lt, q6, by rw [List.map_map]; exact v2⟩, hl, hc, hs⟩
end StrChars.Road
namespace StrChars
open Jvm Sem ClassFile Op Lib Jvm.Stand Jvm.Free.XT Jvm.Free.ALB Jvm.Free.JM Jvm.Free
open Jvm.Lib.Cold (StaticIs)
def hi8 (x : Int32) : Int32 := lo8 (x >>> ((8 : Int32) &&& 31))
end StrChars
namespace StrChars.Road
open Jvm Sem ClassFile Op Lib Jvm.Stand Jvm.Free Jvm.Free.XT
open Jvm.Lib.Cold (StaticIs)
/-- the bytes of the chars cs, low before high -/
def wideBytes : List Int32 → List Value
  | [] => []
  | c :: cs => .int (lo8 c) :: .int (hi8 c) :: wideBytes cs
/-- an array of N2 bytes vs codes the chars cs by the coder cd -/
def CodA (cs : List Int32) (cd N2 : Int32) (vs : List Value) : Prop := (cd = 0 ∧ N2 = Int32.ofNat cs.length ∧ vs = (cs.map fun c => Value.int (lo8 c)) ∧ ∀ c ∈ cs, ¬ 255 < c) ∨ (cd = 1 ∧ N2 = Int32.ofNat (2 * cs.length) ∧ vs = wideBytes cs ∧ ∃ c ∈ cs, 255 < c)
end StrChars.Road
namespace StrChars.Road
open Jvm Sem ClassFile Op Lib Jvm.Stand Jvm.Free Jvm.Free.XT
open Jvm.Lib.Cold (StaticIs)
/-- what backV says of its String, as the contracts of this text ask it: cs's low bytes, coder 0 -/
theorem codOf {cs : List Int32} {n : Nat} (hn : cs.length = n) (hb : ∀ c ∈ cs, ¬ 255 < c) : CodA cs 0 (Int32.ofNat n) ((cs.map lo8).map Value.int) := Or.inl ⟨rfl, by rw [hn], by simp [List.map_map, Function.comp_def], hb⟩
end StrChars.Road
end Jvm.Pilot.@@N@@
namespace Jvm.Pilot.@@N@@
open Jvm Jvm.ClassFile Sem Op Lib Jvm.Free Jvm.Stand Jvm.LawKit Jvm.RoadKit Jvm.OwnKit
/-- the object at a is a String of these chars -/
def SV (Z : State) (h : Heap) (a : Addr) (cs : List Int32) : Prop :=
  Exa Z h a "java/lang/String" ∧ ∃ (cd : Int32) (b : Addr) (kb : ClassId) (N2 : Int32) (vs : List Value), Fld Z h a "java/lang/String" "coder" "B" (.int cd) ∧ Fld Z h a "java/lang/String" "value" "[B" (.ref b) ∧ Arv Z h b kb .byte N2 vs (.int 0) ∧ StrChars.Road.CodA cs cd N2 vs ∧ (∀ c ∈ cs, ¬ c < 0 ∧ ¬ (65535 : Int32) < c) ∧ cs.length ≤ 4000
theorem SV.exa {Z : State} {h : Heap} {a : Addr} {cs : List Int32} (S : SV Z h a cs) : Exa Z h a "java/lang/String" := S.1
theorem SV.lt {Z : State} {h : Heap} {a : Addr} {cs : List Int32} (S : SV Z h a cs) : a < h.size := S.1.lt
theorem SV.ext {Z : State} {h h' : Heap} {a : Addr} {cs : List Int32} (S : SV Z h a cs) (E : Ext h h') : SV Z h' a cs := by
  obtain ⟨X, cd, b, kb, N2, vs, C, V, A, r⟩ := S
  exact ⟨X.ext E, cd, b, kb, N2, vs, C.ext E, V.ext E, A.ext E, r⟩
theorem SV.keepX {Z : State} {h h' : Heap} {a : Addr} {cs : List Int32} {ws : List Addr} (S : SV Z h a cs) (K : Keep h h' ws) (q : ∀ x ∈ ws, x ≠ a ∧ NB Z h x) : SV Z h' a cs := by
  obtain ⟨X, cd, b, kb, N2, vs, C, V, A, r⟩ := S
  have ha : a ∉ ws := fun z => (q a z).1 rfl
  have hb : b ∉ ws := fun z => by obtain ⟨c, A', -⟩ := A; exact (q b z).2 c A'
  exact ⟨X.keep K, cd, b, kb, N2, vs, C.keep K ha, V.keep K ha, A.keep K hb, r⟩
section Str
variable {p : Program} {l : Launch} {e : Env} {R : Room} {s : State} {args : Array Value} {below : List Frame} {len Wd : Nat} {Z : State} {a0 : Array Value} {h : Heap} {vm0 : Vm}
/-- new String(char[]) of one or more chars below 256 -/
theorem newS (hZ : Z.Warmed39 vm0) (hw : ∀ d ∈ StrChars.Road.words, d.before a0 Z = true) (wi : (Jvm.Cond.instantiable "java/lang/String" 4).before a0 Z = true) (O : Ext Z.heap h) {x b : Addr} {kC : ClassId} {cs : List Int32} {d v0 c0 : Value} {z N : Int32}
    (hx0 : Z.heap.size ≤ x) (E : Exa Z h x "java/lang/String") (V : Fld Z h x "java/lang/String" "value" "[B" v0) (C : Fld Z h x "java/lang/String" "coder" "B" c0) (K : Arv Z h b kC .char N (cs.map Value.int) d) (S : Sta Z Z.heap "java/lang/String" "COMPACT_STRINGS" "Z" (.int z)) (hz : ¬ z = 0)
    (n : Nat) (hn : cs.length = n) (hN : N = Int32.ofNat n) (l0 : 0 < n) (l2 : n ≤ 4000) (hp : ∀ c ∈ cs, C8 c) (hfr : 4 ≤ R.frames) (hlo : Wd + 65 ≤ R.locals) :
    Back l R p e below (s.setVm vm0) args (⟨"java/lang/String", "<init>", "([C)V"⟩ : MethodName) len Wd (PreB R #[.ref x, .ref b] h 1 n) (PostB Z h [x] (fun v h' => v = none ∧ SV Z h' x cs) 1 n) := by
  refine Back.mono (StrChars.Road.backV (s := s.setVm vm0) hZ hw wi (bs := cs.map (fun c => c.toInt8.toInt32)) hx0 O.1 E V C K (S.ext O) hz hn hN l0 l2 hp rfl hfr hlo) (fun _ _ q => q) (fun P a v B hp' hq => ?_)
  obtain ⟨L, ⟨q1, q2, q3, q4, q5, t, kb, -, -, -, q6, q7⟩, hl, hc, hs⟩ := hq
  exact ⟨L, ⟨q2, q3, q1, q4, 0, t, kb, N, _, q5, q6, q7, by rw [hN]; exact StrChars.Road.codOf hn (fun c hc => (hp c hc).2), fun c hc => (hp c hc).up, by omega⟩, hl, hc, hs⟩
end Str
end Jvm.Pilot.@@N@@
namespace Jvm.Pilot.@@N@@
open Jvm Jvm.ClassFile Sem Op Lib Jvm.Free Jvm.Stand Jvm.LawKit Jvm.RoadKit Jvm.OwnKit Bundle Jvm.Pilot.@@N@@.Jvm.D
theorem wd {a0 : Array Value} {Z : State} (hw : ∀ d ∈ tables_1, d.before a0 Z = true) (k : Nat) {d : Jvm.Cond} (h : tables_1[k]? = some d) : d.before a0 Z = true := hw _ (List.mem_of_getElem? h)
theorem wsNew {a0 : Array Value} {Z : State} (hw : ∀ d ∈ tables_1, d.before a0 Z = true) : ∀ d ∈ StrChars.Road.words, d.before a0 Z = true := fun d hd => hw d ((by decide +kernel : ∀ d ∈ StrChars.Road.words, d ∈ tables_1) d hd)
theorem elw {a0 : Array Value} {Z : State} (hw : ∀ d ∈ tables_1, d.before a0 Z = true) : EW Z a0 consts_1 := EW.cons (wd hw 48 rfl) (by decide) (EW.nil)
theorem wsStr {a0 : Array Value} {Z : State} (hw : ∀ d ∈ tables_1, d.before a0 Z = true) : ∀ d ∈ Bundle.stringAtoms, d.before a0 Z = true := fun d hd => hw d ((by decide +kernel : ∀ d ∈ Bundle.stringAtoms, d ∈ tables_1) d hd)
theorem pn0 : plainName "java/lang/StringLatin1" = true := by first | (simp [plainName, overriddenIn]; done) | decide +kernel
theorem pn1 : plainName "java/lang/String" = true := by first | (simp [plainName, overriddenIn]; done) | decide +kernel
theorem pn2 : plainName "java/lang/Record" = true := by first | (simp [plainName, overriddenIn]; done) | decide +kernel
theorem pn3 : plainName "java/util/AbstractCollection" = true := by first | (simp [plainName, overriddenIn]; done) | decide +kernel
theorem pn4 : plainName "java/util/AbstractList" = true := by first | (simp [plainName, overriddenIn]; done) | decide +kernel
theorem pn5 : plainName "java/util/ArrayList" = true := by first | (simp [plainName, overriddenIn]; done) | decide +kernel
theorem pn6 : plainName "com/example/sitemark/sitemark/FeatureIdentifiedPinLaw" = true := by first | (simp [plainName, overriddenIn]; done) | decide +kernel
theorem pn7 : plainName "com/example/sitemark/sitemark/SiteMap$Feature" = true := by first | (simp [plainName, overriddenIn]; done) | decide +kernel
theorem d1_0 : decode method_2_code 0 = .ok (.iload_n 0, 1) := by decide +kernel
theorem d1_1 : decode method_2_code 1 = .ok (.iconst 3, 1) := by decide +kernel
theorem d1_2 : decode method_2_code 2 = .ok (.iand, 1) := by decide +kernel
theorem d1_3 : decode method_2_code 3 = .ok (.istore_n 1, 1) := by decide +kernel
theorem d1_4 : decode method_2_code 4 = .ok (.iload_n 1, 1) := by decide +kernel
theorem d1_5 : decode method_2_code 5 = .ok (.ifCond .ne 5, 3) := by decide +kernel
theorem d1_8 : decode method_2_code 8 = .ok (.aconst_null, 1) := by decide +kernel
theorem d1_9 : decode method_2_code 9 = .ok (.areturn, 1) := by decide +kernel
theorem d1_10 : decode method_2_code 10 = .ok (.iload_n 1, 1) := by decide +kernel
theorem d1_11 : decode method_2_code 11 = .ok (.iconst 1, 1) := by decide +kernel
theorem d1_12 : decode method_2_code 12 = .ok (.if_icmp .ne 14, 3) := by decide +kernel
theorem d1_15 : decode method_2_code 15 = .ok (.new 7, 3) := by decide +kernel
theorem d1_18 : decode method_2_code 18 = .ok (.dup, 1) := by decide +kernel
theorem d1_19 : decode method_2_code 19 = .ok (.iconst 0, 1) := by decide +kernel
theorem d1_20 : decode method_2_code 20 = .ok (.newarray .char, 2) := by decide +kernel
theorem d1_22 : decode method_2_code 22 = .ok (.invokespecial 9, 3) := by decide +kernel
theorem d1_25 : decode method_2_code 25 = .ok (.areturn, 1) := by decide +kernel
theorem d1_26 : decode method_2_code 26 = .ok (.iload_n 0, 1) := by decide +kernel
theorem d1_27 : decode method_2_code 27 = .ok (.iconst 2, 1) := by decide +kernel
theorem d1_28 : decode method_2_code 28 = .ok (.iushr, 1) := by decide +kernel
theorem d1_29 : decode method_2_code 29 = .ok (.sipush 255, 3) := by decide +kernel
theorem d1_32 : decode method_2_code 32 = .ok (.iand, 1) := by decide +kernel
theorem d1_33 : decode method_2_code 33 = .ok (.i2c, 1) := by decide +kernel
theorem d1_34 : decode method_2_code 34 = .ok (.istore_n 2, 1) := by decide +kernel
theorem d1_35 : decode method_2_code 35 = .ok (.iload_n 1, 1) := by decide +kernel
theorem d1_36 : decode method_2_code 36 = .ok (.iconst 2, 1) := by decide +kernel
theorem d1_37 : decode method_2_code 37 = .ok (.if_icmp .ne 8, 3) := by decide +kernel
theorem d1_40 : decode method_2_code 40 = .ok (.iload_n 2, 1) := by decide +kernel
theorem d1_41 : decode method_2_code 41 = .ok (.invokestatic 12, 3) := by decide +kernel
theorem d1_44 : decode method_2_code 44 = .ok (.areturn, 1) := by decide +kernel
theorem d1_45 : decode method_2_code 45 = .ok (.iconst 2, 1) := by decide +kernel
theorem d1_46 : decode method_2_code 46 = .ok (.newarray .char, 2) := by decide +kernel
theorem d1_48 : decode method_2_code 48 = .ok (.astore_n 3, 1) := by decide +kernel
theorem d1_49 : decode method_2_code 49 = .ok (.aload_n 3, 1) := by decide +kernel
theorem d1_50 : decode method_2_code 50 = .ok (.iconst 0, 1) := by decide +kernel
theorem d1_51 : decode method_2_code 51 = .ok (.iload_n 2, 1) := by decide +kernel
theorem d1_52 : decode method_2_code 52 = .ok (.castore, 1) := by decide +kernel
theorem d1_53 : decode method_2_code 53 = .ok (.aload_n 3, 1) := by decide +kernel
theorem d1_54 : decode method_2_code 54 = .ok (.iconst 1, 1) := by decide +kernel
theorem d1_55 : decode method_2_code 55 = .ok (.iload_n 0, 1) := by decide +kernel
theorem d1_56 : decode method_2_code 56 = .ok (.bipush 10, 2) := by decide +kernel
theorem d1_58 : decode method_2_code 58 = .ok (.iushr, 1) := by decide +kernel
theorem d1_59 : decode method_2_code 59 = .ok (.sipush 255, 3) := by decide +kernel
theorem d1_62 : decode method_2_code 62 = .ok (.iand, 1) := by decide +kernel
theorem d1_63 : decode method_2_code 63 = .ok (.i2c, 1) := by decide +kernel
theorem d1_64 : decode method_2_code 64 = .ok (.castore, 1) := by decide +kernel
theorem d1_65 : decode method_2_code 65 = .ok (.new 7, 3) := by decide +kernel
theorem d1_68 : decode method_2_code 68 = .ok (.dup, 1) := by decide +kernel
theorem d1_69 : decode method_2_code 69 = .ok (.aload_n 3, 1) := by decide +kernel
theorem d1_70 : decode method_2_code 70 = .ok (.invokespecial 9, 3) := by decide +kernel
theorem d1_73 : decode method_2_code 73 = .ok (.areturn, 1) := by decide +kernel
theorem d2_0 : decode jdk_42_method_3_code 0 = .ok (.aload_n 0, 1) := by decide +kernel
theorem d2_1 : decode jdk_42_method_3_code 1 = .ok (.aload_n 1, 1) := by decide +kernel
theorem d2_2 : decode jdk_42_method_3_code 2 = .ok (.iconst 0, 1) := by decide +kernel
theorem d2_3 : decode jdk_42_method_3_code 3 = .ok (.aload_n 1, 1) := by decide +kernel
theorem d2_4 : decode jdk_42_method_3_code 4 = .ok (.arraylength, 1) := by decide +kernel
theorem d2_5 : decode jdk_42_method_3_code 5 = .ok (.aconst_null, 1) := by decide +kernel
theorem d2_6 : decode jdk_42_method_3_code 6 = .ok (.invokespecial 27, 3) := by decide +kernel
theorem d2_9 : decode jdk_42_method_3_code 9 = .ok (.return_, 1) := by decide +kernel
theorem d3_0 : decode jdk_42_method_149_code 0 = .ok (.aload_n 0, 1) := by decide +kernel
theorem d3_1 : decode jdk_42_method_149_code 1 = .ok (.invokespecial 1, 3) := by decide +kernel
theorem d3_4 : decode jdk_42_method_149_code 4 = .ok (.iload_n 3, 1) := by decide +kernel
theorem d3_5 : decode jdk_42_method_149_code 5 = .ok (.ifCond .ne 22, 3) := by decide +kernel
theorem d3_8 : decode jdk_42_method_149_code 8 = .ok (.aload_n 0, 1) := by decide +kernel
theorem d3_9 : decode jdk_42_method_149_code 9 = .ok (.ldc 7, 2) := by decide +kernel
theorem d3_11 : decode jdk_42_method_149_code 11 = .ok (.getfield 9, 3) := by decide +kernel
theorem d3_14 : decode jdk_42_method_149_code 14 = .ok (.putfield 9, 3) := by decide +kernel
theorem d3_17 : decode jdk_42_method_149_code 17 = .ok (.aload_n 0, 1) := by decide +kernel
theorem d3_18 : decode jdk_42_method_149_code 18 = .ok (.ldc 7, 2) := by decide +kernel
theorem d3_20 : decode jdk_42_method_149_code 20 = .ok (.getfield 15, 3) := by decide +kernel
theorem d3_23 : decode jdk_42_method_149_code 23 = .ok (.putfield 15, 3) := by decide +kernel
theorem d3_26 : decode jdk_42_method_149_code 26 = .ok (.return_, 1) := by decide +kernel
theorem d8_0 : decode jdk_42_method_139_code 0 = .ok (.getstatic 38, 3) := by decide +kernel
theorem d8_3 : decode jdk_42_method_139_code 3 = .ok (.ifCond .eq 23, 3) := by decide +kernel
theorem d8_6 : decode jdk_42_method_139_code 6 = .ok (.iload_n 0, 1) := by decide +kernel
theorem d8_7 : decode jdk_42_method_139_code 7 = .ok (.invokestatic 1015, 3) := by decide +kernel
theorem d8_10 : decode jdk_42_method_139_code 10 = .ok (.ifCond .eq 16, 3) := by decide +kernel
theorem d8_13 : decode jdk_42_method_139_code 13 = .ok (.new 10, 3) := by decide +kernel
theorem d8_16 : decode jdk_42_method_139_code 16 = .ok (.dup, 1) := by decide +kernel
theorem d8_17 : decode jdk_42_method_139_code 17 = .ok (.iload_n 0, 1) := by decide +kernel
theorem d8_18 : decode jdk_42_method_139_code 18 = .ok (.invokestatic 1018, 3) := by decide +kernel
theorem d8_21 : decode jdk_42_method_139_code 21 = .ok (.iconst 0, 1) := by decide +kernel
theorem d8_22 : decode jdk_42_method_139_code 22 = .ok (.invokespecial 209, 3) := by decide +kernel
theorem d8_25 : decode jdk_42_method_139_code 25 = .ok (.areturn, 1) := by decide +kernel
theorem d9_0 : decode jdk_43_method_3_code 0 = .ok (.iload_n 0, 1) := by decide +kernel
theorem d9_1 : decode jdk_43_method_3_code 1 = .ok (.sipush 255, 3) := by decide +kernel
theorem d9_4 : decode jdk_43_method_3_code 4 = .ok (.if_icmp .gt 7, 3) := by decide +kernel
theorem d9_7 : decode jdk_43_method_3_code 7 = .ok (.iconst 1, 1) := by decide +kernel
theorem d9_8 : decode jdk_43_method_3_code 8 = .ok (.goto 4, 3) := by decide +kernel
theorem d9_12 : decode jdk_43_method_3_code 12 = .ok (.ireturn, 1) := by decide +kernel
theorem d10_0 : decode jdk_43_method_46_code 0 = .ok (.iconst 1, 1) := by decide +kernel
theorem d10_1 : decode jdk_43_method_46_code 1 = .ok (.newarray .byte, 2) := by decide +kernel
theorem d10_3 : decode jdk_43_method_46_code 3 = .ok (.dup, 1) := by decide +kernel
theorem d10_4 : decode jdk_43_method_46_code 4 = .ok (.iconst 0, 1) := by decide +kernel
theorem d10_5 : decode jdk_43_method_46_code 5 = .ok (.iload_n 0, 1) := by decide +kernel
theorem d10_6 : decode jdk_43_method_46_code 6 = .ok (.i2b, 1) := by decide +kernel
theorem d10_7 : decode jdk_43_method_46_code 7 = .ok (.bastore, 1) := by decide +kernel
theorem d10_8 : decode jdk_43_method_46_code 8 = .ok (.areturn, 1) := by decide +kernel
theorem d11_0 : decode jdk_42_method_151_code 0 = .ok (.aload_n 0, 1) := by decide +kernel
theorem d11_1 : decode jdk_42_method_151_code 1 = .ok (.invokespecial 1, 3) := by decide +kernel
theorem d11_4 : decode jdk_42_method_151_code 4 = .ok (.aload_n 0, 1) := by decide +kernel
theorem d11_5 : decode jdk_42_method_151_code 5 = .ok (.aload_n 1, 1) := by decide +kernel
theorem d11_6 : decode jdk_42_method_151_code 6 = .ok (.putfield 9, 3) := by decide +kernel
theorem d11_9 : decode jdk_42_method_151_code 9 = .ok (.aload_n 0, 1) := by decide +kernel
theorem d11_10 : decode jdk_42_method_151_code 10 = .ok (.iload_n 2, 1) := by decide +kernel
theorem d11_11 : decode jdk_42_method_151_code 11 = .ok (.putfield 15, 3) := by decide +kernel
theorem d11_14 : decode jdk_42_method_151_code 14 = .ok (.return_, 1) := by decide +kernel
theorem d12_0 : decode jdk_38_method_2_code 0 = .ok (.aload_n 0, 1) := by decide +kernel
theorem d12_1 : decode jdk_38_method_2_code 1 = .ok (.invokespecial 1, 3) := by decide +kernel
theorem d12_4 : decode jdk_38_method_2_code 4 = .ok (.aload_n 0, 1) := by decide +kernel
theorem d12_5 : decode jdk_38_method_2_code 5 = .ok (.getstatic 39, 3) := by decide +kernel
theorem d12_8 : decode jdk_38_method_2_code 8 = .ok (.putfield 9, 3) := by decide +kernel
theorem d12_11 : decode jdk_38_method_2_code 11 = .ok (.return_, 1) := by decide +kernel
theorem d13_0 : decode jdk_39_method_1_code 0 = .ok (.aload_n 0, 1) := by decide +kernel
theorem d13_1 : decode jdk_39_method_1_code 1 = .ok (.invokespecial 1, 3) := by decide +kernel
theorem d13_4 : decode jdk_39_method_1_code 4 = .ok (.aload_n 0, 1) := by decide +kernel
theorem d13_5 : decode jdk_39_method_1_code 5 = .ok (.iconst 0, 1) := by decide +kernel
theorem d13_6 : decode jdk_39_method_1_code 6 = .ok (.putfield 7, 3) := by decide +kernel
theorem d13_9 : decode jdk_39_method_1_code 9 = .ok (.return_, 1) := by decide +kernel
theorem d14_0 : decode jdk_22_method_1_code 0 = .ok (.aload_n 0, 1) := by decide +kernel
theorem d14_1 : decode jdk_22_method_1_code 1 = .ok (.invokespecial 1, 3) := by decide +kernel
theorem d14_4 : decode jdk_22_method_1_code 4 = .ok (.return_, 1) := by decide +kernel
theorem d15_0 : decode prog_46_method_1_code 0 = .ok (.aload_n 0, 1) := by decide +kernel
theorem d15_1 : decode prog_46_method_1_code 1 = .ok (.invokespecial 1, 3) := by decide +kernel
theorem d15_4 : decode prog_46_method_1_code 4 = .ok (.aload_n 0, 1) := by decide +kernel
theorem d15_5 : decode prog_46_method_1_code 5 = .ok (.aload_n 1, 1) := by decide +kernel
theorem d15_6 : decode prog_46_method_1_code 6 = .ok (.putfield 7, 3) := by decide +kernel
theorem d15_9 : decode prog_46_method_1_code 9 = .ok (.aload_n 0, 1) := by decide +kernel
theorem d15_10 : decode prog_46_method_1_code 10 = .ok (.aload_n 2, 1) := by decide +kernel
theorem d15_11 : decode prog_46_method_1_code 11 = .ok (.putfield 13, 3) := by decide +kernel
theorem d15_14 : decode prog_46_method_1_code 14 = .ok (.aload_n 0, 1) := by decide +kernel
theorem d15_15 : decode prog_46_method_1_code 15 = .ok (.aload_n 3, 1) := by decide +kernel
theorem d15_16 : decode prog_46_method_1_code 16 = .ok (.putfield 16, 3) := by decide +kernel
theorem d15_19 : decode prog_46_method_1_code 19 = .ok (.aload_n 0, 1) := by decide +kernel
theorem d15_20 : decode prog_46_method_1_code 20 = .ok (.iload 4, 2) := by decide +kernel
theorem d15_22 : decode prog_46_method_1_code 22 = .ok (.putfield 19, 3) := by decide +kernel
theorem d15_25 : decode prog_46_method_1_code 25 = .ok (.aload_n 0, 1) := by decide +kernel
theorem d15_26 : decode prog_46_method_1_code 26 = .ok (.aload 5, 2) := by decide +kernel
theorem d15_28 : decode prog_46_method_1_code 28 = .ok (.putfield 23, 3) := by decide +kernel
theorem d15_31 : decode prog_46_method_1_code 31 = .ok (.aload_n 0, 1) := by decide +kernel
theorem d15_32 : decode prog_46_method_1_code 32 = .ok (.aload 6, 2) := by decide +kernel
theorem d15_34 : decode prog_46_method_1_code 34 = .ok (.putfield 27, 3) := by decide +kernel
theorem d15_37 : decode prog_46_method_1_code 37 = .ok (.aload_n 0, 1) := by decide +kernel
theorem d15_38 : decode prog_46_method_1_code 38 = .ok (.aload 7, 2) := by decide +kernel
theorem d15_40 : decode prog_46_method_1_code 40 = .ok (.putfield 30, 3) := by decide +kernel
theorem d15_43 : decode prog_46_method_1_code 43 = .ok (.aload_n 0, 1) := by decide +kernel
theorem d15_44 : decode prog_46_method_1_code 44 = .ok (.aload 8, 2) := by decide +kernel
theorem d15_46 : decode prog_46_method_1_code 46 = .ok (.putfield 33, 3) := by decide +kernel
theorem d15_49 : decode prog_46_method_1_code 49 = .ok (.aload_n 0, 1) := by decide +kernel
theorem d15_50 : decode prog_46_method_1_code 50 = .ok (.aload 9, 2) := by decide +kernel
theorem d15_52 : decode prog_46_method_1_code 52 = .ok (.putfield 36, 3) := by decide +kernel
theorem d15_55 : decode prog_46_method_1_code 55 = .ok (.return_, 1) := by decide +kernel
theorem d16_0 : decode jdk_30_method_1_code 0 = .ok (.aload_n 0, 1) := by decide +kernel
theorem d16_1 : decode jdk_30_method_1_code 1 = .ok (.invokespecial 1, 3) := by decide +kernel
theorem d16_4 : decode jdk_30_method_1_code 4 = .ok (.return_, 1) := by decide +kernel
theorem d17_0 : decode prog_46_method_2_code 0 = .ok (.aload_n 0, 1) := by decide +kernel
theorem d17_1 : decode prog_46_method_2_code 1 = .ok (.getfield 13, 3) := by decide +kernel
theorem d17_4 : decode prog_46_method_2_code 4 = .ok (.ifnull 14, 3) := by decide +kernel
theorem d17_7 : decode prog_46_method_2_code 7 = .ok (.aload_n 0, 1) := by decide +kernel
theorem d17_8 : decode prog_46_method_2_code 8 = .ok (.getfield 16, 3) := by decide +kernel
theorem d17_11 : decode prog_46_method_2_code 11 = .ok (.ifnull 7, 3) := by decide +kernel
theorem d17_14 : decode prog_46_method_2_code 14 = .ok (.iconst 1, 1) := by decide +kernel
theorem d17_15 : decode prog_46_method_2_code 15 = .ok (.goto 4, 3) := by decide +kernel
theorem d17_18 : decode prog_46_method_2_code 18 = .ok (.iconst 0, 1) := by decide +kernel
theorem d17_19 : decode prog_46_method_2_code 19 = .ok (.ireturn, 1) := by decide +kernel
theorem d18_0 : decode jdk_38_method_25_code 0 = .ok (.aload_n 0, 1) := by decide +kernel
theorem d18_1 : decode jdk_38_method_25_code 1 = .ok (.dup, 1) := by decide +kernel
theorem d18_2 : decode jdk_38_method_25_code 2 = .ok (.getfield 63, 3) := by decide +kernel
theorem d18_5 : decode jdk_38_method_25_code 5 = .ok (.iconst 1, 1) := by decide +kernel
theorem d18_6 : decode jdk_38_method_25_code 6 = .ok (.iadd, 1) := by decide +kernel
theorem d18_7 : decode jdk_38_method_25_code 7 = .ok (.putfield 63, 3) := by decide +kernel
theorem d18_10 : decode jdk_38_method_25_code 10 = .ok (.aload_n 0, 1) := by decide +kernel
theorem d18_11 : decode jdk_38_method_25_code 11 = .ok (.aload_n 1, 1) := by decide +kernel
theorem d18_12 : decode jdk_38_method_25_code 12 = .ok (.aload_n 0, 1) := by decide +kernel
theorem d18_13 : decode jdk_38_method_25_code 13 = .ok (.getfield 9, 3) := by decide +kernel
theorem d18_16 : decode jdk_38_method_25_code 16 = .ok (.aload_n 0, 1) := by decide +kernel
theorem d18_17 : decode jdk_38_method_25_code 17 = .ok (.getfield 48, 3) := by decide +kernel
theorem d18_20 : decode jdk_38_method_25_code 20 = .ok (.invokevirtual 131, 3) := by decide +kernel
theorem d18_23 : decode jdk_38_method_25_code 23 = .ok (.iconst 1, 1) := by decide +kernel
theorem d18_24 : decode jdk_38_method_25_code 24 = .ok (.ireturn, 1) := by decide +kernel
theorem d19_0 : decode jdk_38_method_24_code 0 = .ok (.iload_n 3, 1) := by decide +kernel
theorem d19_1 : decode jdk_38_method_24_code 1 = .ok (.aload_n 2, 1) := by decide +kernel
theorem d19_2 : decode jdk_38_method_24_code 2 = .ok (.arraylength, 1) := by decide +kernel
theorem d19_3 : decode jdk_38_method_24_code 3 = .ok (.if_icmp .ne 8, 3) := by decide +kernel
theorem d19_6 : decode jdk_38_method_24_code 6 = .ok (.aload_n 0, 1) := by decide +kernel
theorem d19_7 : decode jdk_38_method_24_code 7 = .ok (.invokevirtual 129, 3) := by decide +kernel
theorem d19_10 : decode jdk_38_method_24_code 10 = .ok (.astore_n 2, 1) := by decide +kernel
theorem d19_11 : decode jdk_38_method_24_code 11 = .ok (.aload_n 2, 1) := by decide +kernel
theorem d19_12 : decode jdk_38_method_24_code 12 = .ok (.iload_n 3, 1) := by decide +kernel
theorem d19_13 : decode jdk_38_method_24_code 13 = .ok (.aload_n 1, 1) := by decide +kernel
theorem d19_14 : decode jdk_38_method_24_code 14 = .ok (.aastore, 1) := by decide +kernel
theorem d19_15 : decode jdk_38_method_24_code 15 = .ok (.aload_n 0, 1) := by decide +kernel
theorem d19_16 : decode jdk_38_method_24_code 16 = .ok (.iload_n 3, 1) := by decide +kernel
theorem d19_17 : decode jdk_38_method_24_code 17 = .ok (.iconst 1, 1) := by decide +kernel
theorem d19_18 : decode jdk_38_method_24_code 18 = .ok (.iadd, 1) := by decide +kernel
theorem d19_19 : decode jdk_38_method_24_code 19 = .ok (.putfield 48, 3) := by decide +kernel
theorem d19_22 : decode jdk_38_method_24_code 22 = .ok (.return_, 1) := by decide +kernel
theorem d20_0 : decode jdk_38_method_7_code 0 = .ok (.aload_n 0, 1) := by decide +kernel
theorem d20_1 : decode jdk_38_method_7_code 1 = .ok (.aload_n 0, 1) := by decide +kernel
theorem d20_2 : decode jdk_38_method_7_code 2 = .ok (.getfield 48, 3) := by decide +kernel
theorem d20_5 : decode jdk_38_method_7_code 5 = .ok (.iconst 1, 1) := by decide +kernel
theorem d20_6 : decode jdk_38_method_7_code 6 = .ok (.iadd, 1) := by decide +kernel
theorem d20_7 : decode jdk_38_method_7_code 7 = .ok (.invokevirtual 69, 3) := by decide +kernel
theorem d20_10 : decode jdk_38_method_7_code 10 = .ok (.areturn, 1) := by decide +kernel
theorem d21_0 : decode jdk_38_method_6_code 0 = .ok (.aload_n 0, 1) := by decide +kernel
theorem d21_1 : decode jdk_38_method_6_code 1 = .ok (.getfield 9, 3) := by decide +kernel
theorem d21_4 : decode jdk_38_method_6_code 4 = .ok (.arraylength, 1) := by decide +kernel
theorem d21_5 : decode jdk_38_method_6_code 5 = .ok (.istore_n 2, 1) := by decide +kernel
theorem d21_6 : decode jdk_38_method_6_code 6 = .ok (.iload_n 2, 1) := by decide +kernel
theorem d21_7 : decode jdk_38_method_6_code 7 = .ok (.ifCond .gt 13, 3) := by decide +kernel
theorem d21_10 : decode jdk_38_method_6_code 10 = .ok (.aload_n 0, 1) := by decide +kernel
theorem d21_11 : decode jdk_38_method_6_code 11 = .ok (.getfield 9, 3) := by decide +kernel
theorem d21_14 : decode jdk_38_method_6_code 14 = .ok (.getstatic 39, 3) := by decide +kernel
theorem d21_17 : decode jdk_38_method_6_code 17 = .ok (.if_acmp .eq 28, 3) := by decide +kernel
theorem d21_45 : decode jdk_38_method_6_code 45 = .ok (.aload_n 0, 1) := by decide +kernel
theorem d21_46 : decode jdk_38_method_6_code 46 = .ok (.bipush 10, 2) := by decide +kernel
theorem d21_48 : decode jdk_38_method_6_code 48 = .ok (.iload_n 1, 1) := by decide +kernel
theorem d21_49 : decode jdk_38_method_6_code 49 = .ok (.invokestatic 79, 3) := by decide +kernel
theorem d21_52 : decode jdk_38_method_6_code 52 = .ok (.anewarray 7, 3) := by decide +kernel
theorem d21_55 : decode jdk_38_method_6_code 55 = .ok (.dup_x1, 1) := by decide +kernel
theorem d21_56 : decode jdk_38_method_6_code 56 = .ok (.putfield 9, 3) := by decide +kernel
theorem d21_59 : decode jdk_38_method_6_code 59 = .ok (.areturn, 1) := by decide +kernel
theorem d22_0 : decode jdk_29_method_65_code 0 = .ok (.iload_n 0, 1) := by decide +kernel
theorem d22_1 : decode jdk_29_method_65_code 1 = .ok (.iload_n 1, 1) := by decide +kernel
theorem d22_2 : decode jdk_29_method_65_code 2 = .ok (.if_icmp .lt 7, 3) := by decide +kernel
theorem d22_5 : decode jdk_29_method_65_code 5 = .ok (.iload_n 0, 1) := by decide +kernel
theorem d22_6 : decode jdk_29_method_65_code 6 = .ok (.goto 4, 3) := by decide +kernel
theorem d22_9 : decode jdk_29_method_65_code 9 = .ok (.iload_n 1, 1) := by decide +kernel
theorem d22_10 : decode jdk_29_method_65_code 10 = .ok (.ireturn, 1) := by decide +kernel
theorem pd0 : parseMethodDescriptor "(C)Z" = some ⟨[.char], some .boolean⟩ := by decide +kernel
theorem pd1 : parseMethodDescriptor "(C)[B" = some ⟨[.char], some (.array .byte)⟩ := by decide +kernel
theorem pd2 : parseMethodDescriptor "([BB)V" = some ⟨[(.array .byte), .byte], none⟩ := by decide +kernel
theorem pd3 : parseMethodDescriptor "([CIILjava/lang/Void;)V" = some ⟨[(.array .char), .int, .int, (.object "java/lang/Void")], none⟩ := by decide +kernel
theorem pd4 : parseMethodDescriptor "()V" = some ⟨[], none⟩ := by decide +kernel
theorem pd5 : parseMethodDescriptor "(II)I" = some ⟨[.int, .int], some .int⟩ := by decide +kernel
theorem pd6 : parseMethodDescriptor "(I)[Ljava/lang/Object;" = some ⟨[.int], some (.array (.object "java/lang/Object"))⟩ := by decide +kernel
theorem pd7 : parseMethodDescriptor "()[Ljava/lang/Object;" = some ⟨[], some (.array (.object "java/lang/Object"))⟩ := by decide +kernel
theorem pd8 : parseMethodDescriptor "(Ljava/lang/Object;[Ljava/lang/Object;I)V" = some ⟨[(.object "java/lang/Object"), (.array (.object "java/lang/Object")), .int], none⟩ := by decide +kernel
theorem pd9 : parseMethodDescriptor "([C)V" = some ⟨[(.array .char)], none⟩ := by decide +kernel
theorem pd10 : parseMethodDescriptor "(C)Ljava/lang/String;" = some ⟨[.char], some (.object "java/lang/String")⟩ := by decide +kernel
theorem pd11 : parseMethodDescriptor "(I)Ljava/lang/String;" = some ⟨[.int], some (.object "java/lang/String")⟩ := by decide +kernel
theorem pd12 : parseMethodDescriptor "(Ljava/lang/Object;)Z" = some ⟨[(.object "java/lang/Object")], some .boolean⟩ := by decide +kernel
theorem pd13 : parseMethodDescriptor "(Ljava/lang/String;Ljava/lang/String;Ljava/lang/String;ZLjava/util/List;Ljava/lang/String;Ljava/lang/String;Ljava/lang/String;Ljava/lang/String;)V" = some ⟨[(.object "java/lang/String"), (.object "java/lang/String"), (.object "java/lang/String"), .boolean, (.object "java/util/List"), (.object "java/lang/String"), (.object "java/lang/String"), (.object "java/lang/String"), (.object "java/lang/String")], none⟩ := by decide +kernel
theorem pd14 : parseMethodDescriptor "()Z" = some ⟨[], some .boolean⟩ := by decide +kernel
theorem ef0 (m : MethodId) (x0 : Int32) : entryFrame m #[(.int x0)] 1 = mkF m 0 #[.val (.int x0)] [] := by first | (simp [entryFrame, mkF, argsToLocals, cat_int, cat_long, cat_refv, cat_null]; done) | rfl
theorem ef1 (m : MethodId) (x0 : Addr) (x1 : Addr) (x2 : Int32) : entryFrame m #[(.ref x0), (.ref x1), (.int x2)] 3 = mkF m 0 #[.val (.ref x0), .val (.ref x1), .val (.int x2)] [] := by first | (simp [entryFrame, mkF, argsToLocals, cat_int, cat_long, cat_refv, cat_null]; done) | rfl
theorem ef2 (m : MethodId) (x0 : Addr) (x1 : Addr) (x2 : Int32) (x3 : Int32) : entryFrame m #[(.ref x0), (.ref x1), (.int x2), (.int x3), .null] 6 = mkF m 0 #[.val (.ref x0), .val (.ref x1), .val (.int x2), .val (.int x3), .val .null, .unset] [] := by first | (simp [entryFrame, mkF, argsToLocals, cat_int, cat_long, cat_refv, cat_null]; done) | rfl
theorem ef3 (m : MethodId) (x0 : Addr) (x1 : Addr) : entryFrame m #[(.ref x0), (.ref x1)] 2 = mkF m 0 #[.val (.ref x0), .val (.ref x1)] [] := by first | (simp [entryFrame, mkF, argsToLocals, cat_int, cat_long, cat_refv, cat_null]; done) | rfl
theorem ef4 (m : MethodId) (x0 : Addr) : entryFrame m #[(.ref x0)] 1 = mkF m 0 #[.val (.ref x0)] [] := by first | (simp [entryFrame, mkF, argsToLocals, cat_int, cat_long, cat_refv, cat_null]; done) | rfl
theorem ef5 (m : MethodId) (x0 : Int32) (x1 : Int32) : entryFrame m #[(.int x0), (.int x1)] 2 = mkF m 0 #[.val (.int x0), .val (.int x1)] [] := by first | (simp [entryFrame, mkF, argsToLocals, cat_int, cat_long, cat_refv, cat_null]; done) | rfl
theorem ef6 (m : MethodId) (x0 : Addr) (x1 : Int32) : entryFrame m #[(.ref x0), (.int x1)] 4 = mkF m 0 #[.val (.ref x0), .val (.int x1), .unset, .unset] [] := by first | (simp [entryFrame, mkF, argsToLocals, cat_int, cat_long, cat_refv, cat_null]; done) | rfl
theorem ef7 (m : MethodId) (x0 : Addr) (x1 : Value) (c1 : x1.category = 1) (x2 : Addr) (x3 : Int32) : entryFrame m #[(.ref x0), x1, (.ref x2), (.int x3)] 4 = mkF m 0 #[.val (.ref x0), .val x1, .val (.ref x2), .val (.int x3)] [] := by first | (simp [entryFrame, mkF, argsToLocals, cat_int, cat_long, cat_refv, cat_null, c1]; done) | rfl
theorem ef8 (m : MethodId) (x0 : Addr) (x1 : Value) (c1 : x1.category = 1) : entryFrame m #[(.ref x0), x1] 2 = mkF m 0 #[.val (.ref x0), .val x1] [] := by first | (simp [entryFrame, mkF, argsToLocals, cat_int, cat_long, cat_refv, cat_null, c1]; done) | rfl
theorem ef9 (m : MethodId) (x0 : Int32) : entryFrame m #[(.int x0)] 4 = mkF m 0 #[.val (.int x0), .unset, .unset, .unset] [] := by first | (simp [entryFrame, mkF, argsToLocals, cat_int, cat_long, cat_refv, cat_null]; done) | rfl
theorem ef10 (m : MethodId) (x0 : Addr) (x1 : Value) (c1 : x1.category = 1) (x2 : Value) (c2 : x2.category = 1) (x3 : Value) (c3 : x3.category = 1) (x4 : Int32) (x5 : Value) (c5 : x5.category = 1) (x6 : Value) (c6 : x6.category = 1) (x7 : Value) (c7 : x7.category = 1) (x8 : Value) (c8 : x8.category = 1) (x9 : Value) (c9 : x9.category = 1) : entryFrame m #[(.ref x0), x1, x2, x3, (.int x4), x5, x6, x7, x8, x9] 10 = mkF m 0 #[.val (.ref x0), .val x1, .val x2, .val x3, .val (.int x4), .val x5, .val x6, .val x7, .val x8, .val x9] [] := by first | (simp [entryFrame, mkF, argsToLocals, cat_int, cat_long, cat_refv, cat_null, c1, c2, c3, c5, c6, c7, c8, c9]; done) | rfl
theorem ef11 (m : MethodId) (x0 : Int32) (x1 : Int32) (x2 : Int32) (x3 : Int32) : entryFrame m #[(.int x0), (.int x1), (.int x2), (.int x3)] maxLocals = mkF m 0 #[.val (.int x0), .val (.int x1), .val (.int x2), .val (.int x3), .unset, .unset, .unset, .unset, .unset, .unset, .unset, .unset, .unset, .unset, .unset] [] := by first | (simp [entryFrame, mkF, argsToLocals, cat_int, cat_long, cat_refv, cat_null, maxLocals]; done) | rfl
theorem own_n {v p : Int32} (h : v = OwnKit.i2c (p &&& (255 : Int32))) : C8 v := h ▸ i2c_c8 p
theorem own_b {x : Int32} {P : Prop} [Decidable P] (h : x = (if P then (0 : Int32) else (1 : Int32))) : x = 0 ∨ x = 1 := by subst h; split <;> simp
/-- null, or a String -/
def OS (Z : State) (h : Heap) (x : Value) : Prop := x = .null ∨ ∃ y, x = .ref y ∧ Exa Z h y "java/lang/String"
theorem OS.ext {Z : State} {h h' : Heap} {x : Value} (F : OS Z h x) (E : Ext h h') : OS Z h' x := F.imp id fun ⟨y, q, X⟩ => ⟨y, q, X.ext E⟩
theorem OS.keep {Z : State} {h h' : Heap} {x : Value} {ws : List Addr} (F : OS Z h x) (K : Keep h h' ws) : OS Z h' x := F.imp id fun ⟨y, q, X⟩ => ⟨y, q, X.keep K⟩
theorem OS.wr {Z : State} {h h' : Heap} {x : Value} {a : Addr} {sl : Nat} {v : Value} (F : OS Z h x) (W : Wr h h' a sl v) : OS Z h' x := F.imp id fun ⟨y, q, X⟩ => ⟨y, q, X.wr W⟩
theorem own_sto {Z : State} {h : Heap} {x : Value} {a : Addr} {cl : Cell} {ty : FieldType} {k : ClassId} {a0 : Array Value} (F : OS Z h x) (A : Arr Z h a cl ty) (q : cl.cls = k) (O : Ovr Z k "java/lang/Object") (w : (Jvm.Cond.castable "java/lang/String" "java/lang/Object").before a0 Z = true) : Sto Z h a x := by
  rcases F with rfl | ⟨y, rfl, E⟩
  · exact Or.inl rfl
  · exact Sto.ofV A q O (Ins.of_exa E w)
theorem own_end {p0 p1 ex b : Int32} {r s : Value} (hb : b = (if (if r = .null then (0 : Int32) else if s = .null then (0 : Int32) else (1 : Int32)) = ex then (1 : Int32) else (0 : Int32))) (hex : ex = (if (p0 &&& (3 : Int32)) = 0 then (0 : Int32) else (if (p1 &&& (3 : Int32)) = 0 then (0 : Int32) else (1 : Int32)))) (h1 : r = .null → p0 &&& 3 = 0) (h2 : p0 &&& 3 = 0 → r = .null) (h3 : s = .null → p1 &&& 3 = 0) (h4 : p1 &&& 3 = 0 → s = .null) : some (Value.int b) = some (.int 1) := by
  rw [hb, hex]
  by_cases q0 : p0 &&& 3 = 0
  · have r0 := h2 q0; simp [r0, q0]
  · have r0 : ¬ r = .null := fun z => q0 (h1 z)
    by_cases q1 : p1 &&& 3 = 0
    · have s0 := h4 q1; simp [r0, q0, s0, q1]
    · have s0 : ¬ s = .null := fun z => q1 (h3 z)
      simp [r0, q0, s0, q1]
def QCanE (Z : State) (x : Int32) (h0 : Heap) : Option Value → Heap → Prop := fun v h => v = some (.int 1) ∧ h = h0
set_option maxRecDepth 65536 in
set_option maxHeartbeats 40000000 in
theorem rmCanE (l : Launch) (Z : State) (a0 : Array Value) (hw : ∀ d ∈ tables_1, d.before a0 Z = true) (x : Int32) (h0 : Heap) (O : Ext Z.heap h0) (hx8 : C8 x) :
    CN [] l Z (⟨"java/lang/StringLatin1", "canEncode", "(C)Z"⟩ : MethodName) jdk_43_method_3_code 1 (Option.some Jvm.ClassFile.FieldType.boolean) ({ frames := 0, cells := 0, slots := 0, locals := 0 } : Room) #[(.int x)] h0 [] (QCanE Z x h0) := by
  refine CN.of_walk (plainFor_of_name pn0) O (fun _ q => nomatch q) ?_
  intro p e s m below meth c T0 W0 hx hby hml hoZ hnm hret hlk
  have H0 := W0.here; have hz0 := W0.zsize
  refine Goes.cast (ef0 m x) ?_
  refine G.iloadN H0 hx 1 (hb hby d9_0) rfl rfl ?_
  refine G.sipush H0 hx 4 (255 : Int32) (hb hby d9_1) rfl rfl ?_
  refine G.icmpN H0 hx 7 (hb hby d9_4) (flt hx8.2).2.2.1 rfl ?_
  refine G.iconst H0 hx 8 (1 : Int32) (hb hby d9_7) rfl rfl ?_
  refine G.goto H0 hx 12 (hb hby d9_8) (by decide) rfl ?_
  exact Wk.retN W0 hx (1 : Int32) (t := .boolean) rfl (by simp) hret hlk (hb hby d9_12) (by decide) (by decide) ⟨rfl, rfl⟩
def QToB (Z : State) (x : Int32) (h0 : Heap) : Option Value → Heap → Prop := fun v h => ∃ (b : Addr) (k : ClassId), v = some (.ref b) ∧ h0.size ≤ b ∧ Arv Z h b k .byte 1 [.int (OwnKit.i2b x)] (.int 0)
set_option maxRecDepth 65536 in
set_option maxHeartbeats 40000000 in
theorem rmToB (l : Launch) (Z : State) (a0 : Array Value) (hw : ∀ d ∈ tables_1, d.before a0 Z = true) (x : Int32) (h0 : Heap) (O : Ext Z.heap h0) :
    CN [] l Z (⟨"java/lang/StringLatin1", "toBytes", "(C)[B"⟩ : MethodName) jdk_43_method_46_code 1 (Option.some (Jvm.ClassFile.FieldType.array Jvm.ClassFile.FieldType.byte)) ({ frames := 0, cells := 1, slots := 1, locals := 0 } : Room) #[(.int x)] h0 [] (QToB Z x h0) := by
  refine CN.of_walk (plainFor_of_name pn0) O (fun _ q => nomatch q) ?_
  intro p e s m below meth c T0 W0 hx hby hml hoZ hnm hret hlk
  have H0 := W0.here; have hz0 := W0.zsize
  refine Goes.cast (ef0 m x) ?_
  refine G.iconst H0 hx 1 (1 : Int32) (hb hby d10_0) rfl rfl ?_
  refine Wk.newP W0 hx (wd hw 23 rfl) 3 (hb hby d10_1) (by decide) 1 (by decide) rfl (by decide) (by decide) (by decide) ?_
  intro T1 h1 a1 k1 W1 E1 g1 V1 S1
  have H1 := W1.here; have z1 := E1.1; have gu1 := Nat.le_of_eq g1; have gt1 := Nat.le_of_eq g1.symm; have l1 := ltN V1.lt
  have V1 : Arv Z h1 a1 k1 .byte (1 : Int32) [(.int (0 : Int32))] (.int (0 : Int32)) := V1
  refine G.dup H1 hx 4 (hb hby d10_3) rfl rfl ?_
  refine G.iconst H1 hx 5 (0 : Int32) (hb hby d10_4) rfl rfl ?_
  refine G.iloadN H1 hx 6 (hb hby d10_5) rfl rfl ?_
  refine G.i2b H1 hx 7 (hb hby d10_6) rfl ?_
  refine Wk.bastore W1 hx V1 (Or.inr (by omega)) S1 (OwnKit.i2b x) (i2b_i2b x) 0 rfl ⟨by decide, by decide⟩ (Nat.le_of_ble_eq_true rfl) 8 (hb hby d10_7) rfl ?_
  intro T2 h2 W2 K2 C2 V2; have H2 := W2.here; have z2 := K2.1
  have V2 : Arv Z h2 a1 k1 .byte (1 : Int32) [(.int (OwnKit.i2b x))] (.int (0 : Int32)) := V2
  exact Wk.retA W2 hx (t := (.array .byte)) rfl rfl hret hlk (hb hby d10_8) (by decide) (by decide) ⟨_, _, rfl, by omega, V2⟩
def QSBB (Z : State) (a : Addr) (b : Addr) (h0 : Heap) : Option Value → Heap → Prop := fun v h => v = none ∧ Exa Z h a "java/lang/String" ∧ Fld Z h a "java/lang/String" "value" "[B" (.ref b) ∧ Fld Z h a "java/lang/String" "coder" "B" (.int 0)
set_option maxRecDepth 65536 in
set_option maxHeartbeats 40000000 in
theorem rmSBB (l : Launch) (Z : State) (a0 : Array Value) (hw : ∀ d ∈ tables_1, d.before a0 Z = true) (a : Addr) (b : Addr) (h0 : Heap) (O : Ext Z.heap h0) (gz_a : Z.heap.size ≤ a) (Ea : Exa Z h0 a "java/lang/String") (Fv : Fld Z h0 a "java/lang/String" "value" "[B" .null) (Fc : Fld Z h0 a "java/lang/String" "coder" "B" (.int 0)) :
    CN [] l Z (⟨"java/lang/String", "<init>", "([BB)V"⟩ : MethodName) jdk_42_method_151_code 3 (Option.none : Option Jvm.ClassFile.FieldType) ({ frames := 1, cells := 0, slots := 0, locals := 12 } : Room) #[(.ref a), (.ref b), (.int (0 : Int32))] h0 [a] (QSBB Z a b h0) := by
  refine CN.of_walk (plainFor_of_name pn1) O (ala gz_a ala0) ?_
  intro p e s m below meth c T0 W0 hx hby hml hoZ hnm hret hlk
  have H0 := W0.here; have hz0 := W0.zsize
  refine Goes.cast (ef1 m a b (0 : Int32)) ?_
  refine G.aloadN H0 hx 1 (hb hby d11_0) rfl rfl rfl ?_
  refine Wk.initO W0 hx hoZ (wd hw 15 rfl) (wd hw 16 rfl) (wd hw 17 rfl) (by rw [hml]; rfl) 4 (hb hby d11_1) rfl (by decide) 0 (Nat.le_of_eq rfl) (by decide) ?_
  intro T1 W1; have H1 := W1.here
  refine G.aloadN H1 hx 5 (hb hby d11_4) rfl rfl rfl ?_
  refine G.aloadN H1 hx 6 (hb hby d11_5) rfl rfl rfl ?_
  refine Wk.putF W1 hx hoZ (wd hw 32 rfl) Via.refl (.ref b) Fv Ea (Or.inr ⟨(wd hw 33 rfl), rfl, hnm⟩) (wd hw 6 rfl) (ty := (.array .byte)) (by decide) rfl rfl (Or.inl (by simp)) safe0 9 (hb hby d11_6) rfl ?_
  intro T2 h2 W2 R2 C2; have H2 := W2.here; have z2 := R2.size
  have F2 := (Fv).same R2
  refine G.aloadN H2 hx 10 (hb hby d11_9) rfl rfl rfl ?_
  refine G.iloadN H2 hx 11 (hb hby d11_10) rfl rfl ?_
  refine Wk.putF W2 hx hoZ (wd hw 30 rfl) Via.refl (.int (0 : Int32)) (Fc.other R2 (Or.inr (slot_ne (Or.inr (wd hw 31 rfl)) (Or.inr (wd hw 33 rfl)) (by decide) (t := .byte) (t' := (.array .byte)) (by decide) (by decide)))) (Ea.wr R2) (Or.inr ⟨(wd hw 31 rfl), rfl, hnm⟩) (wd hw 6 rfl) (ty := .byte) (by decide) rfl rfl (Or.inl (by simp)) safe0 14 (hb hby d11_11) rfl ?_
  intro T3 h3 W3 R3 C3; have H3 := W3.here; have z3 := R3.size
  have F3 := ((Fc.other R2 (Or.inr (slot_ne (Or.inr (wd hw 31 rfl)) (Or.inr (wd hw 33 rfl)) (by decide) (t := .byte) (t' := (.array .byte)) (by decide) (by decide))))).same R3
  exact Wk.retV W3 hx hret hlk (hb hby d11_14) (by decide) (by decide) ⟨rfl, ((Ea.wr R2).wr R3), (F2.other R3 (Or.inr (slot_ne (Or.inr (wd hw 33 rfl)) (Or.inr (wd hw 31 rfl)) (by decide) (t := (.array .byte)) (t' := .byte) (by decide) (by decide)))), F3⟩
def QVOf (Z : State) (cz : Int32) (x : Int32) (h0 : Heap) : Option Value → Heap → Prop := fun v h => ∃ a : Addr, v = some (.ref a) ∧ h0.size ≤ a ∧ SV Z h a [x]
set_option maxRecDepth 65536 in
set_option maxHeartbeats 40000000 in
theorem rmVOf (l : Launch) (Z : State) (a0 : Array Value) (hw : ∀ d ∈ tables_1, d.before a0 Z = true) (cz : Int32) (x : Int32) (h0 : Heap) (O : Ext Z.heap h0) (hCS : Sta Z Z.heap "java/lang/String" "COMPACT_STRINGS" "Z" (.int cz)) (hcz : ¬ cz = 0) (hx8 : C8 x) :
    CN [] l Z (⟨"java/lang/String", "valueOf", "(C)Ljava/lang/String;"⟩ : MethodName) jdk_42_method_139_code 1 (Option.some (Jvm.ClassFile.FieldType.object "java/lang/String")) ({ frames := 2, cells := 2, slots := 5, locals := 30 } : Room) #[(.int x)] h0 [] (QVOf Z cz x h0) := by
  refine CN.of_walk (plainFor_of_name pn1) O (fun _ q => nomatch q) ?_
  intro p e s m below meth c T0 W0 hx hby hml hoZ hnm hret hlk
  have H0 := W0.here; have hz0 := W0.zsize
  refine Goes.cast (ef0 m x) ?_
  refine Wk.getS W0 hx hoZ (wd hw 18 rfl) Via.refl (hCS.ext W0.old) 3 (hb hby d8_0) rfl ?_
  intro T1 W1; have H1 := W1.here
  refine G.ifN H1 hx 6 (hb hby d8_3) (zne hcz).1 rfl ?_
  refine G.iloadN H1 hx 7 (hb hby d8_6) rfl rfl ?_
  refine Wk.callS W1 hx hoZ (y := (⟨"java/lang/StringLatin1", "canEncode", "(C)Z"⟩ : MethodName)) (wd hw 37 rfl) (wd hw 38 rfl) (wd hw 39 rfl) (wd hw 40 rfl) (by decide) (Wd := 0) (CN.back (rmCanE l Z a0 hw x h0 W1.old hx8) W1.warm (wd hw 40 rfl) (wd hw 39 rfl) (by decide) (by decide)) (by rw [hml]; rfl) [(.int x)] [] (lenOf pd0 rfl) rfl rfl (Nat.le_of_eq rfl) 10 (hb hby d8_7) rfl (by decide) (by decide) (fun _ q => nomatch q) ?_
  intro v2 T2 h2 W2 K2 C2 Q2
  have H2 := W2.here; have z2 := K2.1
  obtain ⟨rfl, eh2⟩ := Q2
  show Goes p e below (PostN s Z h0 [] (QVOf Z cz x h0) ({ frames := 2, cells := 2, slots := 5, locals := 30 } : Room).cells ({ frames := 2, cells := 2, slots := 5, locals := 30 } : Room).slots) (T2.setTop (mkF m 10 #[.val (.int x)] [(.int (1 : Int32))]))
  refine G.ifN H2 hx 13 (hb hby d8_10) (zne (by decide)).1 rfl ?_
  refine Wk.newO W2 hx hoZ (wd hw 41 rfl) (wd hw 6 rfl) (wd hw 7 rfl) 16 (hb hby d8_13) rfl (by decide) (by decide) ?_
  intro T3 h3 a3 W3 E3 g3 A3 D3 S3
  have H3 := W3.here; have z3 := E3.1; have gu3 := Nat.le_of_eq g3; have gt3 := Nat.le_of_eq g3.symm; have l3 := ltN A3.lt
  refine G.dup H3 hx 17 (hb hby d8_16) rfl rfl ?_
  refine G.iloadN H3 hx 18 (hb hby d8_17) rfl rfl ?_
  refine Wk.callS W3 hx hoZ (y := (⟨"java/lang/StringLatin1", "toBytes", "(C)[B"⟩ : MethodName)) (wd hw 42 rfl) (wd hw 43 rfl) (wd hw 39 rfl) (wd hw 44 rfl) (by decide) (Wd := 2) (CN.back (rmToB l Z a0 hw x h3 W3.old ) W3.warm (wd hw 44 rfl) (wd hw 39 rfl) (by decide) (by decide)) (by rw [hml]; rfl) [(.int x)] [(.ref a3), (.ref a3)] (lenOf pd1 rfl) rfl rfl (Nat.le_of_eq rfl) 21 (hb hby d8_18) rfl (by decide) (by decide) (fun _ q => nomatch q) ?_
  intro v4 T4 h4 W4 K4 C4 Q4
  have H4 := W4.here; have z4 := K4.1
  obtain ⟨b4, k4, rfl, g4, V4⟩ := Q4; have l4 := ltN V4.lt
  show Goes p e below (PostN s Z h0 [] (QVOf Z cz x h0) ({ frames := 2, cells := 2, slots := 5, locals := 30 } : Room).cells ({ frames := 2, cells := 2, slots := 5, locals := 30 } : Room).slots) (T4.setTop (mkF m 21 #[.val (.int x)] [(.ref b4), (.ref a3), (.ref a3)]))
  refine G.iconst H4 hx 22 (0 : Int32) (hb hby d8_21) rfl rfl ?_
  refine Wk.special W4 hx hoZ (y := (⟨"java/lang/String", "<init>", "([BB)V"⟩ : MethodName)) rfl (wd hw 45 rfl) (wd hw 46 rfl) (wd hw 47 rfl) (by decide) (Wd := 1) (CN.back (rmSBB l Z a0 hw a3 b4 h4 W4.old (by omega) (A3.keep K4) ((D3 (Or.inr (wd hw 33 rfl)) (ty := (.array .byte)) (by decide)).keep K4 nin0) ((D3 (Or.inr (wd hw 31 rfl)) (ty := .byte) (by decide)).keep K4 nin0)) W4.warm (wd hw 47 rfl) (wd hw 7 rfl) (by decide) (by decide)) a3 (by rw [hml]; rfl) [(.ref b4), (.int (0 : Int32))] [(.ref a3)] (lenOf pd2 rfl) rfl rfl (Nat.le_of_eq rfl) 25 (hb hby d8_22) rfl (by decide) (by decide) (hws1 (Or.inr (by omega)) safe0) ?_
  intro v5 T5 h5 W5 K5 C5 Q5
  have H5 := W5.here; have z5 := K5.1
  obtain ⟨rfl, X5, F5v, F5c⟩ := Q5
  show Goes p e below (PostN s Z h0 [] (QVOf Z cz x h0) ({ frames := 2, cells := 2, slots := 5, locals := 30 } : Room).cells ({ frames := 2, cells := 2, slots := 5, locals := 30 } : Room).slots) (T5.setTop (mkF m 25 #[.val (.int x)] [(.ref a3)]))
  exact Wk.retA W5 hx (t := (.object "java/lang/String")) rfl rfl hret hlk (hb hby d8_25) (by decide) (by decide) ⟨_, rfl, by omega, X5, 0, _, _, 1, _, F5c, F5v, (V4.keep K5 (ninS (neA (by omega)) nin0)), Or.inl ⟨rfl, rfl, rfl, ala hx8.2 ala0⟩, ala hx8.up ala0, Nat.le_of_ble_eq_true rfl⟩
def QEm4 (Z : State) (a : Addr) (b : Addr) (h0 : Heap) : Option Value → Heap → Prop := fun v h => v = none ∧ SV Z h a []
set_option maxRecDepth 65536 in
set_option maxHeartbeats 40000000 in
theorem rmEm4 (l : Launch) (Z : State) (a0 : Array Value) (hw : ∀ d ∈ tables_1, d.before a0 Z = true) (a : Addr) (b : Addr) (h0 : Heap) (O : Ext Z.heap h0) (gz_a : Z.heap.size ≤ a) (Ea : Exa Z h0 a "java/lang/String") (Fv : Fld Z h0 a "java/lang/String" "value" "[B" .null) (Fc : Fld Z h0 a "java/lang/String" "coder" "B" (.int 0)) :
    CW [] l Z consts_1 (⟨"java/lang/String", "<init>", "([CIILjava/lang/Void;)V"⟩ : MethodName) jdk_42_method_149_code 6 (Option.none : Option Jvm.ClassFile.FieldType) ({ frames := 1, cells := 4, slots := 8, locals := 14 } : Room) #[(.ref a), (.ref b), (.int (0 : Int32)), (.int (0 : Int32)), .null] h0 [a] (QEm4 Z a b h0) := by
  refine CW.of_walk (plainFor_of_name pn1) O (ala gz_a ala0) ?_
  intro p e s m below meth c T0 W0 hsf hx hby hml hoZ hnm hret hlk
  have H0 := W0.here; have hz0 := W0.zsize; have hEL := elw hw
  refine Goes.cast (ef2 m a b (0 : Int32) (0 : Int32)) ?_
  have la := ltN Ea.lt
  refine G.aloadN H0 hx 1 (hb hby d3_0) rfl rfl rfl ?_
  refine Wk.initO W0 hx hoZ (wd hw 15 rfl) (wd hw 16 rfl) (wd hw 17 rfl) (by rw [hml]; rfl) 4 (hb hby d3_1) rfl (by decide) 0 (Nat.le_of_eq rfl) (by decide) ?_
  intro T1 W1; have H1 := W1.here
  refine G.iloadN H1 hx 5 (hb hby d3_4) rfl rfl ?_
  refine G.ifN H1 hx 8 (hb hby d3_5) (zeq (by decide)).2 rfl ?_
  refine G.aloadN H1 hx 9 (hb hby d3_8) rfl rfl rfl ?_
  refine Wk.ldcE W1 hx hoZ (text := "") (wd hw 48 rfl) (wsStr hw) hEL (by decide) (vs := []) (z := 0) ⟨by decide, by decide⟩ (by decide) (by decide) 11 (hb hby d3_9) rfl 0 (by decide) (by decide) (by decide) (by decide) ?_
  intro vm2 T2 h2 a2 b2 k2 W2 E2 C2 X2 F2c F2v V2 sep2
  have H2 := W2.here; have z2 := E2.1; have l2 := ltN X2.lt; have m2 := ltN V2.lt
  obtain ⟨nA2_a, nB2_a⟩ := sep2 a (C2.safe (ltA (by omega)) (hsf a (by simp)))
  have pA2_a := neN nA2_a; have pB2_a := neN nB2_a
  refine Wk.getF W2 hx hoZ (host := "") (Or.inl (wd hw 32 rfl)) Via.refl F2v 14 (hb hby d3_11) rfl ?_
  intro T3 W3; have H3 := W3.here
  refine Wk.putF W3 hx hoZ (wd hw 32 rfl) Via.refl (.ref b2) (Fv.ext E2) (Ea.ext E2) (Or.inr ⟨(wd hw 33 rfl), rfl, hnm⟩) (wd hw 6 rfl) (ty := (.array .byte)) (by decide) rfl rfl (Or.inl (by simp)) (C2.safe (ltA (by omega)) (hsf a (by simp))) 17 (hb hby d3_14) rfl ?_
  intro T4 h4 W4 R4 C4; have H4 := W4.here; have z4 := R4.size
  have F4 := ((Fv.ext E2)).same R4
  refine G.aloadN H4 hx 18 (hb hby d3_17) rfl rfl rfl ?_
  refine Wk.ldcE W4 hx hoZ (text := "") (wd hw 48 rfl) (wsStr hw) hEL (by decide) (vs := []) (z := 0) ⟨by decide, by decide⟩ (by decide) (by decide) 20 (hb hby d3_18) rfl 0 (by decide) (by decide) (by decide) (by decide) ?_
  intro vm5 T5 h5 a5 b5 k5 W5 E5 C5 X5 F5c F5v V5 sep5
  have H5 := W5.here; have z5 := E5.1; have l5 := ltN X5.lt; have m5 := ltN V5.lt
  obtain ⟨nA5_a, nB5_a⟩ := sep5 a (C5.safe (ltA (by omega)) (C4.safe (ltA (by omega)) (C2.safe (ltA (by omega)) (hsf a (by simp)))))
  have pA5_a := neN nA5_a; have pB5_a := neN nB5_a
  refine Wk.getF W5 hx hoZ (host := "") (Or.inl (wd hw 30 rfl)) Via.refl F5c 23 (hb hby d3_20) rfl ?_
  intro T6 W6; have H6 := W6.here
  refine Wk.putF W6 hx hoZ (wd hw 30 rfl) Via.refl (.int (0 : Int32)) (((Fc.ext E2).other R4 (Or.inr (slot_ne (Or.inr (wd hw 31 rfl)) (Or.inr (wd hw 33 rfl)) (by decide) (t := .byte) (t' := (.array .byte)) (by decide) (by decide)))).ext E5) (((Ea.ext E2).wr R4).ext E5) (Or.inr ⟨(wd hw 31 rfl), rfl, hnm⟩) (wd hw 6 rfl) (ty := .byte) (by decide) rfl rfl (Or.inl (by simp)) (C5.safe (ltA (by omega)) (C4.safe (ltA (by omega)) (C2.safe (ltA (by omega)) (hsf a (by simp))))) 26 (hb hby d3_23) rfl ?_
  intro T7 h7 W7 R7 C7; have H7 := W7.here; have z7 := R7.size
  have F7 := ((((Fc.ext E2).other R4 (Or.inr (slot_ne (Or.inr (wd hw 31 rfl)) (Or.inr (wd hw 33 rfl)) (by decide) (t := .byte) (t' := (.array .byte)) (by decide) (by decide)))).ext E5)).same R7
  exact Wk.retVW W7 hx hEL hret hlk (hb hby d3_26) (by decide) (by decide) ⟨rfl, ((((Ea.ext E2).wr R4).ext E5).wr R7), 0, _, _, 0, [], F7, ((F4.ext E5).other R7 (Or.inr (slot_ne (Or.inr (wd hw 33 rfl)) (Or.inr (wd hw 31 rfl)) (by decide) (t := (.array .byte)) (t' := .byte) (by decide) (by decide)))), (((V2.other R4 (neA (by omega))).ext E5).other R7 (neA (by omega))), Or.inl ⟨rfl, rfl, rfl, ala0⟩, ala0, by decide⟩
def QEm1 (Z : State) (a : Addr) (b : Addr) (kb : ClassId) (h0 : Heap) : Option Value → Heap → Prop := fun v h => v = none ∧ SV Z h a []
set_option maxRecDepth 65536 in
set_option maxHeartbeats 40000000 in
theorem rmEm1 (l : Launch) (Z : State) (a0 : Array Value) (hw : ∀ d ∈ tables_1, d.before a0 Z = true) (a : Addr) (b : Addr) (kb : ClassId) (h0 : Heap) (O : Ext Z.heap h0) (gz_a : Z.heap.size ≤ a) (Ea : Exa Z h0 a "java/lang/String") (Fv : Fld Z h0 a "java/lang/String" "value" "[B" .null) (Fc : Fld Z h0 a "java/lang/String" "coder" "B" (.int 0)) (Vb : Arv Z h0 b kb .char 0 [] (.int 0)) :
    CW [] l Z consts_1 (⟨"java/lang/String", "<init>", "([C)V"⟩ : MethodName) jdk_42_method_3_code 2 (Option.none : Option Jvm.ClassFile.FieldType) ({ frames := 2, cells := 4, slots := 8, locals := 32 } : Room) #[(.ref a), (.ref b)] h0 [a] (QEm1 Z a b kb h0) := by
  refine CW.of_walk (plainFor_of_name pn1) O (ala gz_a ala0) ?_
  intro p e s m below meth c T0 W0 hsf hx hby hml hoZ hnm hret hlk
  have H0 := W0.here; have hz0 := W0.zsize; have hEL := elw hw
  refine Goes.cast (ef3 m a b) ?_
  have la := ltN Ea.lt
  refine G.aloadN H0 hx 1 (hb hby d2_0) rfl rfl rfl ?_
  refine G.aloadN H0 hx 2 (hb hby d2_1) rfl rfl rfl ?_
  refine G.iconst H0 hx 3 (0 : Int32) (hb hby d2_2) rfl rfl ?_
  refine G.aloadN H0 hx 4 (hb hby d2_3) rfl rfl rfl ?_
  refine Wk.arraylength W0 hx Vb 5 (hb hby d2_4) rfl ?_
  refine G.aconstNull H0 hx 6 (hb hby d2_5) rfl ?_
  refine Wk.specialW W0 hx hoZ (y := (⟨"java/lang/String", "<init>", "([CIILjava/lang/Void;)V"⟩ : MethodName)) rfl (wd hw 11 rfl) (wd hw 12 rfl) (wd hw 14 rfl) (by decide) (Wd := 0) (CW.back (rmEm4 l Z a0 hw a b h0 W0.old (by omega) Ea Fv Fc) W0.warm (wd hw 14 rfl) (wd hw 7 rfl) (by decide) (by decide) hEL W0.ch (all1 (by omega)) (ala (hsf a (by simp)) ala0)) a (by rw [hml]; rfl) [(.ref b), (.int (0 : Int32)), (.int (0 : Int32)), .null] [] (lenOf pd3 rfl) rfl rfl (Nat.le_of_eq rfl) 9 (hb hby d2_6) rfl (by decide) (by decide) (hws1 (Or.inl (by simp)) (hsf a (by simp))) ?_
  intro v1 vm1 T1 h1 W1 K1 C1 Q1
  have H1 := W1.here; have z1 := K1.1
  obtain ⟨rfl, Sv1⟩ := Q1
  show Goes p e below (PostW s Z consts_1 h0 [a] (QEm1 Z a b kb h0) ({ frames := 2, cells := 4, slots := 8, locals := 32 } : Room).cells ({ frames := 2, cells := 4, slots := 8, locals := 32 } : Room).slots) (T1.setTop (mkF m 9 #[.val (.ref a), .val (.ref b)] []))
  exact Wk.retVW W1 hx hEL hret hlk (hb hby d2_9) (by decide) (by decide) ⟨rfl, Sv1⟩
def QRec (Z : State) (a : Addr) (h0 : Heap) : Option Value → Heap → Prop := fun v h => v = none ∧ h = h0
set_option maxRecDepth 65536 in
set_option maxHeartbeats 40000000 in
theorem rmRec (l : Launch) (Z : State) (a0 : Array Value) (hw : ∀ d ∈ tables_1, d.before a0 Z = true) (a : Addr) (h0 : Heap) (O : Ext Z.heap h0) :
    CN [] l Z (⟨"java/lang/Record", "<init>", "()V"⟩ : MethodName) jdk_30_method_1_code 1 (Option.none : Option Jvm.ClassFile.FieldType) ({ frames := 1, cells := 0, slots := 0, locals := 12 } : Room) #[(.ref a)] h0 [] (QRec Z a h0) := by
  refine CN.of_walk (plainFor_of_name pn2) O (fun _ q => nomatch q) ?_
  intro p e s m below meth c T0 W0 hx hby hml hoZ hnm hret hlk
  have H0 := W0.here; have hz0 := W0.zsize
  refine Goes.cast (ef4 m a) ?_
  refine G.aloadN H0 hx 1 (hb hby d16_0) rfl rfl rfl ?_
  refine Wk.initO W0 hx hoZ (wd hw 86 rfl) (wd hw 16 rfl) (wd hw 17 rfl) (by rw [hml]; rfl) 4 (hb hby d16_1) rfl (by decide) 0 (Nat.le_of_eq rfl) (by decide) ?_
  intro T1 W1; have H1 := W1.here
  exact Wk.retV W1 hx hret hlk (hb hby d16_4) (by decide) (by decide) ⟨rfl, rfl⟩
def f_max (x0 : Int32) (x1 : Int32) : Int32 := (if x0 < x1 then x1 else x0)
def Qmax (Z : State) (x0 : Int32) (x1 : Int32) (h0 : Heap) : Option Value → Heap → Prop := fun v h => v = some (.int (f_max x0 x1)) ∧ h = h0
set_option maxRecDepth 65536 in
set_option maxHeartbeats 40000000 in
theorem rmmax (l : Launch) (Z : State) (a0 : Array Value) (hw : ∀ d ∈ tables_1, d.before a0 Z = true) (x0 : Int32) (x1 : Int32) (h0 : Heap) (O : Ext Z.heap h0) :
    CN [] l Z (⟨"java/lang/Math", "max", "(II)I"⟩ : MethodName) jdk_29_method_65_code 2 (Option.some Jvm.ClassFile.FieldType.int) ({ frames := 0, cells := 0, slots := 0, locals := 0 } : Room) #[(.int x0), (.int x1)] h0 [] (Qmax Z x0 x1 h0) := by
  refine CN.of_walk (Jvm.Free.JP.mathPlain rfl (by decide +kernel)) O (fun _ q => nomatch q) ?_
  intro p e s m below meth c T0 W0 hx hby hml hoZ hnm hret hlk
  have H0 := W0.here; have hz0 := W0.zsize
  refine Goes.cast (ef5 m x0 x1) ?_
  refine G.iloadN H0 hx 1 (hb hby d22_0) rfl rfl ?_
  refine G.iloadN H0 hx 2 (hb hby d22_1) rfl rfl ?_
  by_cases c2_1 : x0 < x1
  ·
    refine G.icmpY H0 hx 9 (hb hby d22_2) (tlt c2_1).1 (by decide) rfl ?_
    refine G.iloadN H0 hx 10 (hb hby d22_9) rfl rfl ?_
    exact Wk.retI W0 hx hret hlk (hb hby d22_10) (by decide) (by decide) ⟨(by simp only [f_max, if_pos c2_1]), rfl⟩
  ·
    refine G.icmpN H0 hx 5 (hb hby d22_2) (flt c2_1).1 rfl ?_
    refine G.iloadN H0 hx 6 (hb hby d22_5) rfl rfl ?_
    refine G.goto H0 hx 10 (hb hby d22_6) (by decide) rfl ?_
    exact Wk.retI W0 hx hret hlk (hb hby d22_10) (by decide) (by decide) ⟨(by simp only [f_max, if_neg c2_1]), rfl⟩
def QAcI (Z : State) (a : Addr) (h0 : Heap) : Option Value → Heap → Prop := fun v h => v = none ∧ h = h0
set_option maxRecDepth 65536 in
set_option maxHeartbeats 40000000 in
theorem rmAcI (l : Launch) (Z : State) (a0 : Array Value) (hw : ∀ d ∈ tables_1, d.before a0 Z = true) (a : Addr) (h0 : Heap) (O : Ext Z.heap h0) :
    CN [] l Z (⟨"java/util/AbstractCollection", "<init>", "()V"⟩ : MethodName) jdk_22_method_1_code 1 (Option.none : Option Jvm.ClassFile.FieldType) ({ frames := 1, cells := 0, slots := 0, locals := 12 } : Room) #[(.ref a)] h0 [] (QAcI Z a h0) := by
  refine CN.of_walk (plainFor_of_name pn3) O (fun _ q => nomatch q) ?_
  intro p e s m below meth c T0 W0 hx hby hml hoZ hnm hret hlk
  have H0 := W0.here; have hz0 := W0.zsize
  refine Goes.cast (ef4 m a) ?_
  refine G.aloadN H0 hx 1 (hb hby d14_0) rfl rfl rfl ?_
  refine Wk.initO W0 hx hoZ (wd hw 69 rfl) (wd hw 16 rfl) (wd hw 17 rfl) (by rw [hml]; rfl) 4 (hb hby d14_1) rfl (by decide) 0 (Nat.le_of_eq rfl) (by decide) ?_
  intro T1 W1; have H1 := W1.here
  exact Wk.retV W1 hx hret hlk (hb hby d14_4) (by decide) (by decide) ⟨rfl, rfl⟩
def QAbI (Z : State) (a : Addr) (h0 : Heap) : Option Value → Heap → Prop := fun v h => v = none ∧ Exa Z h a "java/util/ArrayList" ∧ Fld Z h a "java/util/AbstractList" "modCount" "I" (.int 0) ∧ Fld Z h a "java/util/ArrayList" "elementData" "[Ljava/lang/Object;" .null ∧ Fld Z h a "java/util/ArrayList" "size" "I" (.int 0)
set_option maxRecDepth 65536 in
set_option maxHeartbeats 40000000 in
theorem rmAbI (l : Launch) (Z : State) (a0 : Array Value) (hw : ∀ d ∈ tables_1, d.before a0 Z = true) (a : Addr) (h0 : Heap) (O : Ext Z.heap h0) (gz_a : Z.heap.size ≤ a) (Ea : Exa Z h0 a "java/util/ArrayList") (Fm : Fld Z h0 a "java/util/AbstractList" "modCount" "I" (.int 0)) (Fe : Fld Z h0 a "java/util/ArrayList" "elementData" "[Ljava/lang/Object;" .null) (Fs : Fld Z h0 a "java/util/ArrayList" "size" "I" (.int 0)) :
    CN [] l Z (⟨"java/util/AbstractList", "<init>", "()V"⟩ : MethodName) jdk_39_method_1_code 1 (Option.none : Option Jvm.ClassFile.FieldType) ({ frames := 2, cells := 0, slots := 0, locals := 30 } : Room) #[(.ref a)] h0 [a] (QAbI Z a h0) := by
  refine CN.of_walk (plainFor_of_name pn4) O (ala gz_a ala0) ?_
  intro p e s m below meth c T0 W0 hx hby hml hoZ hnm hret hlk
  have H0 := W0.here; have hz0 := W0.zsize
  refine Goes.cast (ef4 m a) ?_
  have la := ltN Ea.lt
  refine G.aloadN H0 hx 1 (hb hby d13_0) rfl rfl rfl ?_
  refine Wk.special W0 hx hoZ (y := (⟨"java/util/AbstractCollection", "<init>", "()V"⟩ : MethodName)) rfl (wd hw 63 rfl) (wd hw 64 rfl) (wd hw 68 rfl) (by decide) (Wd := 0) (CN.back (rmAcI l Z a0 hw a h0 W0.old ) W0.warm (wd hw 68 rfl) (wd hw 67 rfl) (by decide) (by decide)) a (by rw [hml]; rfl) [] [] (lenOf pd4 rfl) rfl rfl (Nat.le_of_eq rfl) 4 (hb hby d13_1) rfl (by decide) (by decide) (fun _ q => nomatch q) ?_
  intro v1 T1 h1 W1 K1 C1 Q1
  have H1 := W1.here; have z1 := K1.1
  obtain ⟨rfl, eh1⟩ := Q1
  show Goes p e below (PostN s Z h0 [a] (QAbI Z a h0) ({ frames := 2, cells := 0, slots := 0, locals := 30 } : Room).cells ({ frames := 2, cells := 0, slots := 0, locals := 30 } : Room).slots) (T1.setTop (mkF m 4 #[.val (.ref a)] []))
  refine G.aloadN H1 hx 5 (hb hby d13_4) rfl rfl rfl ?_
  refine G.iconst H1 hx 6 (0 : Int32) (hb hby d13_5) rfl rfl ?_
  refine Wk.putF W1 hx hoZ (wd hw 70 rfl) Via.refl (.int (0 : Int32)) (Fm.keep K1 nin0) (Ea.keep K1) (Or.inl (wd hw 71 rfl)) (wd hw 52 rfl) (ty := .int) (by decide) rfl rfl (Or.inl (by simp)) safe0 9 (hb hby d13_6) rfl ?_
  intro T2 h2 W2 R2 C2; have H2 := W2.here; have z2 := R2.size
  have F2 := ((Fm.keep K1 nin0)).same R2
  exact Wk.retV W2 hx hret hlk (hb hby d13_9) (by decide) (by decide) ⟨rfl, ((Ea.keep K1).wr R2), F2, ((Fe.keep K1 nin0).other R2 (Or.inr (slot_ne (Or.inl (wd hw 74 rfl)) (Or.inl (wd hw 71 rfl)) (by decide) (t := (.array (.object "java/lang/Object"))) (t' := .int) (by decide) (by decide)))), ((Fs.keep K1 nin0).other R2 (Or.inr (slot_ne (Or.inl (wd hw 122 rfl)) (Or.inl (wd hw 71 rfl)) (by decide) (t := .int) (t' := .int) (by decide) (by decide))))⟩
def QArI (Z : State) (de : Addr) (kd : ClassId) (a : Addr) (h0 : Heap) : Option Value → Heap → Prop := fun v h => v = none ∧ Exa Z h a "java/util/ArrayList" ∧ Fld Z h a "java/util/AbstractList" "modCount" "I" (.int 0) ∧ Fld Z h a "java/util/ArrayList" "elementData" "[Ljava/lang/Object;" (.ref de) ∧ Fld Z h a "java/util/ArrayList" "size" "I" (.int 0)
set_option maxRecDepth 65536 in
set_option maxHeartbeats 40000000 in
theorem rmArI (l : Launch) (Z : State) (a0 : Array Value) (hw : ∀ d ∈ tables_1, d.before a0 Z = true) (de : Addr) (kd : ClassId) (a : Addr) (h0 : Heap) (O : Ext Z.heap h0) (hDE : Sta Z Z.heap "java/util/ArrayList" "DEFAULTCAPACITY_EMPTY_ELEMENTDATA" "[Ljava/lang/Object;" (.ref de)) (hVD : Arv Z Z.heap de kd (.object "java/lang/Object") 0 [] .null) (gz_a : Z.heap.size ≤ a) (Ea : Exa Z h0 a "java/util/ArrayList") (Fm : Fld Z h0 a "java/util/AbstractList" "modCount" "I" (.int 0)) (Fe : Fld Z h0 a "java/util/ArrayList" "elementData" "[Ljava/lang/Object;" .null) (Fs : Fld Z h0 a "java/util/ArrayList" "size" "I" (.int 0)) :
    CN [] l Z (⟨"java/util/ArrayList", "<init>", "()V"⟩ : MethodName) jdk_38_method_2_code 1 (Option.none : Option Jvm.ClassFile.FieldType) ({ frames := 3, cells := 0, slots := 0, locals := 50 } : Room) #[(.ref a)] h0 [a] (QArI Z de kd a h0) := by
  refine CN.of_walk (plainFor_of_name pn5) O (ala gz_a ala0) ?_
  intro p e s m below meth c T0 W0 hx hby hml hoZ hnm hret hlk
  have H0 := W0.here; have hz0 := W0.zsize
  refine Goes.cast (ef4 m a) ?_
  have la := ltN Ea.lt
  refine G.aloadN H0 hx 1 (hb hby d12_0) rfl rfl rfl ?_
  refine Wk.special W0 hx hoZ (y := (⟨"java/util/AbstractList", "<init>", "()V"⟩ : MethodName)) rfl (wd hw 57 rfl) (wd hw 58 rfl) (wd hw 62 rfl) (by decide) (Wd := 0) (CN.back (rmAbI l Z a0 hw a h0 W0.old (by omega) Ea Fm Fe Fs) W0.warm (wd hw 62 rfl) (wd hw 61 rfl) (by decide) (by decide)) a (by rw [hml]; rfl) [] [] (lenOf pd4 rfl) rfl rfl (Nat.le_of_eq rfl) 4 (hb hby d12_1) rfl (by decide) (by decide) (hws1 (Or.inl (by simp)) safe0) ?_
  intro v1 T1 h1 W1 K1 C1 Q1
  have H1 := W1.here; have z1 := K1.1
  obtain ⟨rfl, X1, F1m, F1e, F1s⟩ := Q1
  show Goes p e below (PostN s Z h0 [a] (QArI Z de kd a h0) ({ frames := 3, cells := 0, slots := 0, locals := 50 } : Room).cells ({ frames := 3, cells := 0, slots := 0, locals := 50 } : Room).slots) (T1.setTop (mkF m 4 #[.val (.ref a)] []))
  refine G.aloadN H1 hx 5 (hb hby d12_4) rfl rfl rfl ?_
  refine Wk.getS W1 hx hoZ (wd hw 72 rfl) Via.refl (hDE.ext W1.old) 8 (hb hby d12_5) rfl ?_
  intro T2 W2; have H2 := W2.here
  refine Wk.putF W2 hx hoZ (wd hw 73 rfl) Via.refl (.ref de) F1e X1 (Or.inl (wd hw 74 rfl)) (wd hw 52 rfl) (ty := (.array (.object "java/lang/Object"))) (by decide) rfl rfl (Or.inl (by simp)) safe0 11 (hb hby d12_8) rfl ?_
  intro T3 h3 W3 R3 C3; have H3 := W3.here; have z3 := R3.size
  have F3 := (F1e).same R3
  exact Wk.retV W3 hx hret hlk (hb hby d12_11) (by decide) (by decide) ⟨rfl, (X1.wr R3), (F1m.other R3 (Or.inr (slot_ne (Or.inl (wd hw 71 rfl)) (Or.inl (wd hw 74 rfl)) (by decide) (t := .int) (t' := (.array (.object "java/lang/Object"))) (by decide) (by decide)))), F3, (F1s.other R3 (Or.inr (slot_ne (Or.inl (wd hw 122 rfl)) (Or.inl (wd hw 74 rfl)) (by decide) (t := .int) (t' := (.array (.object "java/lang/Object"))) (by decide) (by decide))))⟩
def QGr1 (Z : State) (de : Addr) (kd : ClassId) (mc : Int32) (a : Addr) (h0 : Heap) : Option Value → Heap → Prop := fun v h => ∃ (b : Addr) (k : ClassId), v = some (.ref b) ∧ h0.size ≤ b ∧ Arv Z h b k (.object "java/lang/Object") (f_max 10 1) (List.replicate 10 .null) .null ∧ Ovr Z k "java/lang/Object" ∧ Exa Z h a "java/util/ArrayList" ∧ Fld Z h a "java/util/ArrayList" "size" "I" (.int 0)
set_option maxRecDepth 65536 in
set_option maxHeartbeats 40000000 in
theorem rmGr1 (l : Launch) (Z : State) (a0 : Array Value) (hw : ∀ d ∈ tables_1, d.before a0 Z = true) (de : Addr) (kd : ClassId) (mc : Int32) (a : Addr) (h0 : Heap) (O : Ext Z.heap h0) (hDE : Sta Z Z.heap "java/util/ArrayList" "DEFAULTCAPACITY_EMPTY_ELEMENTDATA" "[Ljava/lang/Object;" (.ref de)) (hVD : Arv Z Z.heap de kd (.object "java/lang/Object") 0 [] .null) (gz_a : Z.heap.size ≤ a) (Ea : Exa Z h0 a "java/util/ArrayList") (Fm : Fld Z h0 a "java/util/AbstractList" "modCount" "I" (.int mc)) (Fe : Fld Z h0 a "java/util/ArrayList" "elementData" "[Ljava/lang/Object;" (.ref de)) (Fs : Fld Z h0 a "java/util/ArrayList" "size" "I" (.int 0)) :
    CN [] l Z (⟨"java/util/ArrayList", "grow", "(I)[Ljava/lang/Object;"⟩ : MethodName) jdk_38_method_6_code 4 (Option.some (Jvm.ClassFile.FieldType.array (Jvm.ClassFile.FieldType.object "java/lang/Object"))) ({ frames := 1, cells := 1, slots := 10, locals := 20 } : Room) #[(.ref a), (.int (1 : Int32))] h0 [a] (QGr1 Z de kd mc a h0) := by
  refine CN.of_walk (plainFor_of_name pn5) O (ala gz_a ala0) ?_
  intro p e s m below meth c T0 W0 hx hby hml hoZ hnm hret hlk
  have H0 := W0.here; have hz0 := W0.zsize
  refine Goes.cast (ef6 m a (1 : Int32)) ?_
  have la := ltN Ea.lt
  have lde := ltN hVD.lt
  refine G.aloadN H0 hx 1 (hb hby d21_0) rfl rfl rfl ?_
  refine Wk.getF W0 hx hoZ (host := "") (Or.inl (wd hw 73 rfl)) Via.refl Fe 4 (hb hby d21_1) rfl ?_
  intro T1 W1; have H1 := W1.here
  refine Wk.arraylength W1 hx (hVD.ext O) 5 (hb hby d21_4) rfl ?_
  refine G.istoreNX H1 hx 6 #[.val (.ref a), .val (.int (1 : Int32)), .val (.int (0 : Int32)), .unset] (hb hby d21_5) rfl rfl ?_
  refine G.iloadN H1 hx 7 (hb hby d21_6) rfl rfl ?_
  refine G.ifN H1 hx 10 (hb hby d21_7) (zng (by decide)).1 rfl ?_
  refine G.aloadN H1 hx 11 (hb hby d21_10) rfl rfl rfl ?_
  refine Wk.getF W1 hx hoZ (host := "") (Or.inl (wd hw 73 rfl)) Via.refl Fe 14 (hb hby d21_11) rfl ?_
  intro T2 W2; have H2 := W2.here
  refine Wk.getS W2 hx hoZ (wd hw 72 rfl) Via.refl (hDE.ext W2.old) 17 (hb hby d21_14) rfl ?_
  intro T3 W3; have H3 := W3.here
  refine G.acmpY H3 hx 45 (hb hby d21_17) rfl rfl (by (simp [XT.acmp]) /- true -/) (by decide) rfl ?_
  refine G.aloadN H3 hx 46 (hb hby d21_45) rfl rfl rfl ?_
  refine G.bipush H3 hx 48 (10 : Int32) (hb hby d21_46) rfl rfl ?_
  refine G.iloadN H3 hx 49 (hb hby d21_48) rfl rfl ?_
  refine Wk.callS W3 hx hoZ (y := (⟨"java/lang/Math", "max", "(II)I"⟩ : MethodName)) (wd hw 138 rfl) (wd hw 139 rfl) (wd hw 140 rfl) (wd hw 141 rfl) (by decide) (Wd := 1) (CN.back (rmmax l Z a0 hw (10 : Int32) (1 : Int32) h0 W3.old ) W3.warm (wd hw 141 rfl) (wd hw 140 rfl) (by decide) (by decide)) (by rw [hml]; rfl) [(.int (10 : Int32)), (.int (1 : Int32))] [(.ref a)] (lenOf pd5 rfl) rfl rfl (Nat.le_of_eq rfl) 52 (hb hby d21_49) rfl (by decide) (by decide) (fun _ q => nomatch q) ?_
  intro v4 T4 h4 W4 K4 C4 Q4
  have H4 := W4.here; have z4 := K4.1
  obtain ⟨rfl, eh4⟩ := Q4
  show Goes p e below (PostN s Z h0 [a] (QGr1 Z de kd mc a h0) ({ frames := 1, cells := 1, slots := 10, locals := 20 } : Room).cells ({ frames := 1, cells := 1, slots := 10, locals := 20 } : Room).slots) (T4.setTop (mkF m 52 #[.val (.ref a), .val (.int (1 : Int32)), .val (.int (0 : Int32)), .unset] [(.int (f_max (10 : Int32) (1 : Int32))), (.ref a)]))
  refine Wk.newR W4 hx hoZ (wd hw 142 rfl) (wd hw 143 rfl) 55 (hb hby d21_52) (by decide) 10 (by decide) rfl (by decide) (by decide) (by decide) ?_
  intro T5 h5 a5 k5 W5 E5 g5 V5 O5 S5
  have H5 := W5.here; have z5 := E5.1; have gu5 := Nat.le_of_eq g5; have gt5 := Nat.le_of_eq g5.symm; have l5 := ltN V5.lt
  refine G.dupX1 H5 hx 56 (hb hby d21_55) rfl rfl rfl ?_
  refine Wk.putF W5 hx hoZ (wd hw 73 rfl) Via.refl (.ref a5) ((Fe.keep K4 nin0).ext E5) ((Ea.keep K4).ext E5) (Or.inl (wd hw 74 rfl)) (wd hw 52 rfl) (ty := (.array (.object "java/lang/Object"))) (by decide) rfl rfl (Or.inl (by simp)) safe0 59 (hb hby d21_56) rfl ?_
  intro T6 h6 W6 R6 C6; have H6 := W6.here; have z6 := R6.size
  have F6 := (((Fe.keep K4 nin0).ext E5)).same R6
  exact Wk.retA W6 hx (t := (.array (.object "java/lang/Object"))) rfl rfl hret hlk (hb hby d21_59) (by decide) (by decide) ⟨_, _, rfl, by omega, (V5.other R6 (neA (by omega))), O5, (((Ea.keep K4).ext E5).wr R6), (((Fs.keep K4 nin0).ext E5).other R6 (Or.inr (slot_ne (Or.inl (wd hw 122 rfl)) (Or.inl (wd hw 74 rfl)) (by decide) (t := .int) (t' := (.array (.object "java/lang/Object"))) (by decide) (by decide))))⟩
def QGr0 (Z : State) (de : Addr) (kd : ClassId) (mc : Int32) (a : Addr) (h0 : Heap) : Option Value → Heap → Prop := fun v h => ∃ (b : Addr) (k : ClassId), v = some (.ref b) ∧ h0.size ≤ b ∧ Arv Z h b k (.object "java/lang/Object") (f_max 10 1) (List.replicate 10 .null) .null ∧ Ovr Z k "java/lang/Object" ∧ Exa Z h a "java/util/ArrayList" ∧ Fld Z h a "java/util/ArrayList" "size" "I" (.int 0)
set_option maxRecDepth 65536 in
set_option maxHeartbeats 40000000 in
theorem rmGr0 (l : Launch) (Z : State) (a0 : Array Value) (hw : ∀ d ∈ tables_1, d.before a0 Z = true) (de : Addr) (kd : ClassId) (mc : Int32) (a : Addr) (h0 : Heap) (O : Ext Z.heap h0) (hDE : Sta Z Z.heap "java/util/ArrayList" "DEFAULTCAPACITY_EMPTY_ELEMENTDATA" "[Ljava/lang/Object;" (.ref de)) (hVD : Arv Z Z.heap de kd (.object "java/lang/Object") 0 [] .null) (gz_a : Z.heap.size ≤ a) (Ea : Exa Z h0 a "java/util/ArrayList") (Fm : Fld Z h0 a "java/util/AbstractList" "modCount" "I" (.int mc)) (Fe : Fld Z h0 a "java/util/ArrayList" "elementData" "[Ljava/lang/Object;" (.ref de)) (Fs : Fld Z h0 a "java/util/ArrayList" "size" "I" (.int 0)) :
    CN [] l Z (⟨"java/util/ArrayList", "grow", "()[Ljava/lang/Object;"⟩ : MethodName) jdk_38_method_7_code 1 (Option.some (Jvm.ClassFile.FieldType.array (Jvm.ClassFile.FieldType.object "java/lang/Object"))) ({ frames := 2, cells := 1, slots := 10, locals := 40 } : Room) #[(.ref a)] h0 [a] (QGr0 Z de kd mc a h0) := by
  refine CN.of_walk (plainFor_of_name pn5) O (ala gz_a ala0) ?_
  intro p e s m below meth c T0 W0 hx hby hml hoZ hnm hret hlk
  have H0 := W0.here; have hz0 := W0.zsize
  refine Goes.cast (ef4 m a) ?_
  have la := ltN Ea.lt
  have lde := ltN hVD.lt
  refine G.aloadN H0 hx 1 (hb hby d20_0) rfl rfl rfl ?_
  refine G.aloadN H0 hx 2 (hb hby d20_1) rfl rfl rfl ?_
  refine Wk.getF W0 hx hoZ (host := "") (Or.inl (wd hw 121 rfl)) Via.refl Fs 5 (hb hby d20_2) rfl ?_
  intro T1 W1; have H1 := W1.here
  refine G.iconst H1 hx 6 (1 : Int32) (hb hby d20_5) rfl rfl ?_
  refine G.iaddF H1 hx 7 (1 : Int32) (hb hby d20_6) (by decide) rfl ?_
  refine Wk.priv W1 hx hoZ (y := (⟨"java/util/ArrayList", "grow", "(I)[Ljava/lang/Object;"⟩ : MethodName)) (wd hw 133 rfl) (wd hw 134 rfl) (wd hw 136 rfl) (wd hw 135 rfl) (wd hw 137 rfl) (by decide) (Wd := 0) (CN.back (rmGr1 l Z a0 hw de kd mc a h0 W1.old hDE hVD (by omega) Ea Fm Fe Fs) W1.warm (wd hw 137 rfl) (wd hw 53 rfl) (by decide) (by decide)) Ea (by rw [hml]; rfl) [(.int (1 : Int32))] [] (lenOf pd6 rfl) rfl rfl (Nat.le_of_eq rfl) 10 (hb hby d20_7) rfl (by decide) (by decide) (hws1 (Or.inl (by simp)) safe0) ?_
  intro v2 T2 h2 W2 K2 C2 Q2
  have H2 := W2.here; have z2 := K2.1
  obtain ⟨b2, k2, rfl, g2, V2, O2, X2, F2s⟩ := Q2; have l2 := ltN V2.lt
  show Goes p e below (PostN s Z h0 [a] (QGr0 Z de kd mc a h0) ({ frames := 2, cells := 1, slots := 10, locals := 40 } : Room).cells ({ frames := 2, cells := 1, slots := 10, locals := 40 } : Room).slots) (T2.setTop (mkF m 10 #[.val (.ref a)] [(.ref b2)]))
  exact Wk.retA W2 hx (t := (.array (.object "java/lang/Object"))) rfl rfl hret hlk (hb hby d20_10) (by decide) (by decide) ⟨_, _, rfl, by omega, V2, O2, X2, F2s⟩
def QAd3 (Z : State) (de : Addr) (kd : ClassId) (mc : Int32) (a : Addr) (x : Value) (h0 : Heap) : Option Value → Heap → Prop := fun v h => v = none ∧ Exa Z h a "java/util/ArrayList"
set_option maxRecDepth 65536 in
set_option maxHeartbeats 40000000 in
theorem rmAd3 (l : Launch) (Z : State) (a0 : Array Value) (hw : ∀ d ∈ tables_1, d.before a0 Z = true) (de : Addr) (kd : ClassId) (mc : Int32) (a : Addr) (x : Value) (h0 : Heap) (O : Ext Z.heap h0) (hDE : Sta Z Z.heap "java/util/ArrayList" "DEFAULTCAPACITY_EMPTY_ELEMENTDATA" "[Ljava/lang/Object;" (.ref de)) (hVD : Arv Z Z.heap de kd (.object "java/lang/Object") 0 [] .null) (gz_a : Z.heap.size ≤ a) (Ea : Exa Z h0 a "java/util/ArrayList") (Fm : Fld Z h0 a "java/util/AbstractList" "modCount" "I" (.int mc)) (Fe : Fld Z h0 a "java/util/ArrayList" "elementData" "[Ljava/lang/Object;" (.ref de)) (Fs : Fld Z h0 a "java/util/ArrayList" "size" "I" (.int 0)) (hxr : x.isRef = true) (Ox : OS Z h0 x) :
    CN [] l Z (⟨"java/util/ArrayList", "add", "(Ljava/lang/Object;[Ljava/lang/Object;I)V"⟩ : MethodName) jdk_38_method_24_code 4 (Option.none : Option Jvm.ClassFile.FieldType) ({ frames := 3, cells := 1, slots := 10, locals := 60 } : Room) #[(.ref a), x, (.ref de), (.int (0 : Int32))] h0 [a] (QAd3 Z de kd mc a x h0) := by
  refine CN.of_walk (plainFor_of_name pn5) O (ala gz_a ala0) ?_
  intro p e s m below meth c T0 W0 hx hby hml hoZ hnm hret hlk
  have H0 := W0.here; have hz0 := W0.zsize
  refine Goes.cast (ef7 m a x (cat_ref hxr) de (0 : Int32)) ?_
  have la := ltN Ea.lt
  have lde := ltN hVD.lt
  refine G.iloadN H0 hx 1 (hb hby d19_0) rfl rfl ?_
  refine G.aloadN H0 hx 2 (hb hby d19_1) rfl rfl rfl ?_
  refine Wk.arraylength W0 hx (hVD.ext O) 3 (hb hby d19_2) rfl ?_
  refine G.icmpN H0 hx 6 (hb hby d19_3) (teq (by decide)).2 rfl ?_
  refine G.aloadN H0 hx 7 (hb hby d19_6) rfl rfl rfl ?_
  refine Wk.priv W0 hx hoZ (y := (⟨"java/util/ArrayList", "grow", "()[Ljava/lang/Object;"⟩ : MethodName)) (wd hw 128 rfl) (wd hw 129 rfl) (wd hw 131 rfl) (wd hw 130 rfl) (wd hw 132 rfl) (by decide) (Wd := 0) (CN.back (rmGr0 l Z a0 hw de kd mc a h0 W0.old hDE hVD (by omega) Ea Fm Fe Fs) W0.warm (wd hw 132 rfl) (wd hw 53 rfl) (by decide) (by decide)) Ea (by rw [hml]; rfl) [] [] (lenOf pd7 rfl) rfl rfl (Nat.le_of_eq rfl) 10 (hb hby d19_7) rfl (by decide) (by decide) (hws1 (Or.inl (by simp)) safe0) ?_
  intro v1 T1 h1 W1 K1 C1 Q1
  have H1 := W1.here; have z1 := K1.1
  obtain ⟨b1, k1, rfl, g1, V1, O1, X1, F1s⟩ := Q1; have l1 := ltN V1.lt
  show Goes p e below (PostN s Z h0 [a] (QAd3 Z de kd mc a x h0) ({ frames := 3, cells := 1, slots := 10, locals := 60 } : Room).cells ({ frames := 3, cells := 1, slots := 10, locals := 60 } : Room).slots) (T1.setTop (mkF m 10 #[.val (.ref a), .val x, .val (.ref de), .val (.int (0 : Int32))] [(.ref b1)]))
  refine G.astoreN H1 hx 11 #[.val (.ref a), .val x, .val (.ref b1), .val (.int (0 : Int32))] (hb hby d19_10) rfl rfl rfl ?_
  refine G.aloadN H1 hx 12 (hb hby d19_11) rfl rfl rfl ?_
  refine G.iloadN H1 hx 13 (hb hby d19_12) rfl rfl ?_
  refine G.aloadN H1 hx 14 (hb hby d19_13) rfl hxr rfl ?_
  refine Wk.aastore W1 hx V1 (Or.inr (by omega)) hxr (fun cl A q => own_sto (Ox.keep K1) A q O1 (wd hw 144 rfl)) 0 rfl ⟨by decide, by decide⟩ (by decide) 15 (hb hby d19_14) rfl ?_
  intro T2 h2 W2 K2 C2 V2; have H2 := W2.here; have z2 := K2.1
  refine G.aloadN H2 hx 16 (hb hby d19_15) rfl rfl rfl ?_
  refine G.iloadN H2 hx 17 (hb hby d19_16) rfl rfl ?_
  refine G.iconst H2 hx 18 (1 : Int32) (hb hby d19_17) rfl rfl ?_
  refine G.iaddF H2 hx 19 (1 : Int32) (hb hby d19_18) (by decide) rfl ?_
  refine Wk.putF W2 hx hoZ (wd hw 121 rfl) Via.refl (.int (1 : Int32)) (F1s.keep K2 (ninS (neA (by omega)) nin0)) (X1.keep K2) (Or.inl (wd hw 122 rfl)) (wd hw 52 rfl) (ty := .int) (by decide) rfl rfl (Or.inl (by simp)) safe0 22 (hb hby d19_19) rfl ?_
  intro T3 h3 W3 R3 C3; have H3 := W3.here; have z3 := R3.size
  have F3 := ((F1s.keep K2 (ninS (neA (by omega)) nin0))).same R3
  exact Wk.retV W3 hx hret hlk (hb hby d19_22) (by decide) (by decide) ⟨rfl, ((X1.keep K2).wr R3)⟩
def QAdd (Z : State) (de : Addr) (kd : ClassId) (mc : Int32) (a : Addr) (x : Value) (h0 : Heap) : Option Value → Heap → Prop := fun v h => v = some (.int 1)
set_option maxRecDepth 65536 in
set_option maxHeartbeats 40000000 in
theorem rmAdd (l : Launch) (Z : State) (a0 : Array Value) (hw : ∀ d ∈ tables_1, d.before a0 Z = true) (de : Addr) (kd : ClassId) (mc : Int32) (a : Addr) (x : Value) (h0 : Heap) (O : Ext Z.heap h0) (hDE : Sta Z Z.heap "java/util/ArrayList" "DEFAULTCAPACITY_EMPTY_ELEMENTDATA" "[Ljava/lang/Object;" (.ref de)) (hVD : Arv Z Z.heap de kd (.object "java/lang/Object") 0 [] .null) (gz_a : Z.heap.size ≤ a) (Ea : Exa Z h0 a "java/util/ArrayList") (Fm : Fld Z h0 a "java/util/AbstractList" "modCount" "I" (.int mc)) (Fe : Fld Z h0 a "java/util/ArrayList" "elementData" "[Ljava/lang/Object;" (.ref de)) (Fs : Fld Z h0 a "java/util/ArrayList" "size" "I" (.int 0)) (hxr : x.isRef = true) (Ox : OS Z h0 x) :
    CN [] l Z (⟨"java/util/ArrayList", "add", "(Ljava/lang/Object;)Z"⟩ : MethodName) jdk_38_method_25_code 2 (Option.some Jvm.ClassFile.FieldType.boolean) ({ frames := 4, cells := 1, slots := 10, locals := 80 } : Room) #[(.ref a), x] h0 [a] (QAdd Z de kd mc a x h0) := by
  refine CN.of_walk (plainFor_of_name pn5) O (ala gz_a ala0) ?_
  intro p e s m below meth c T0 W0 hx hby hml hoZ hnm hret hlk
  have H0 := W0.here; have hz0 := W0.zsize
  refine Goes.cast (ef8 m a x (cat_ref hxr)) ?_
  have la := ltN Ea.lt
  have lde := ltN hVD.lt
  refine G.aloadN H0 hx 1 (hb hby d18_0) rfl rfl rfl ?_
  refine G.dup H0 hx 2 (hb hby d18_1) rfl rfl ?_
  refine Wk.getF W0 hx hoZ (host := "") (Or.inl (wd hw 119 rfl)) (Via.of (wd hw 120 rfl)) Fm 5 (hb hby d18_2) rfl ?_
  intro T1 W1; have H1 := W1.here
  refine G.iconst H1 hx 6 (1 : Int32) (hb hby d18_5) rfl rfl ?_
  refine G.iadd H1 hx 7 (hb hby d18_6) rfl ?_
  refine Wk.putF W1 hx hoZ (wd hw 119 rfl) (Via.of (wd hw 120 rfl)) (.int (mc + (1 : Int32))) Fm Ea (Or.inl (wd hw 71 rfl)) (wd hw 52 rfl) (ty := .int) (by decide) rfl rfl (Or.inl (by simp)) safe0 10 (hb hby d18_7) rfl ?_
  intro T2 h2 W2 R2 C2; have H2 := W2.here; have z2 := R2.size
  have F2 := (Fm).same R2
  refine G.aloadN H2 hx 11 (hb hby d18_10) rfl rfl rfl ?_
  refine G.aloadN H2 hx 12 (hb hby d18_11) rfl hxr rfl ?_
  refine G.aloadN H2 hx 13 (hb hby d18_12) rfl rfl rfl ?_
  refine Wk.getF W2 hx hoZ (host := "") (Or.inl (wd hw 73 rfl)) Via.refl (Fe.other R2 (Or.inr (slot_ne (Or.inl (wd hw 74 rfl)) (Or.inl (wd hw 71 rfl)) (by decide) (t := (.array (.object "java/lang/Object"))) (t' := .int) (by decide) (by decide)))) 16 (hb hby d18_13) rfl ?_
  intro T3 W3; have H3 := W3.here
  refine G.aloadN H3 hx 17 (hb hby d18_16) rfl rfl rfl ?_
  refine Wk.getF W3 hx hoZ (host := "") (Or.inl (wd hw 121 rfl)) Via.refl (Fs.other R2 (Or.inr (slot_ne (Or.inl (wd hw 122 rfl)) (Or.inl (wd hw 71 rfl)) (by decide) (t := .int) (t' := .int) (by decide) (by decide)))) 20 (hb hby d18_17) rfl ?_
  intro T4 W4; have H4 := W4.here
  refine Wk.priv W4 hx hoZ (y := (⟨"java/util/ArrayList", "add", "(Ljava/lang/Object;[Ljava/lang/Object;I)V"⟩ : MethodName)) (wd hw 123 rfl) (wd hw 124 rfl) (wd hw 126 rfl) (wd hw 125 rfl) (wd hw 127 rfl) (by decide) (Wd := 0) (CN.back (rmAd3 l Z a0 hw de kd (mc + (1 : Int32)) a x h2 W4.old hDE hVD (by omega) (Ea.wr R2) F2 (Fe.other R2 (Or.inr (slot_ne (Or.inl (wd hw 74 rfl)) (Or.inl (wd hw 71 rfl)) (by decide) (t := (.array (.object "java/lang/Object"))) (t' := .int) (by decide) (by decide)))) (Fs.other R2 (Or.inr (slot_ne (Or.inl (wd hw 122 rfl)) (Or.inl (wd hw 71 rfl)) (by decide) (t := .int) (t' := .int) (by decide) (by decide)))) hxr (Ox.wr R2)) W4.warm (wd hw 127 rfl) (wd hw 53 rfl) (by decide) (by decide)) (Ea.wr R2) (by rw [hml]; rfl) [x, (.ref de), (.int (0 : Int32))] [] (lenOf pd8 rfl) rfl rfl (Nat.le_of_eq rfl) 23 (hb hby d18_20) rfl (by decide) (by decide) (hws1 (Or.inl (by simp)) safe0) ?_
  intro v5 T5 h5 W5 K5 C5 Q5
  have H5 := W5.here; have z5 := K5.1
  obtain ⟨rfl, X5⟩ := Q5
  show Goes p e below (PostN s Z h0 [a] (QAdd Z de kd mc a x h0) ({ frames := 4, cells := 1, slots := 10, locals := 80 } : Room).cells ({ frames := 4, cells := 1, slots := 10, locals := 80 } : Room).slots) (T5.setTop (mkF m 23 #[.val (.ref a), .val x] []))
  refine G.iconst H5 hx 24 (1 : Int32) (hb hby d18_23) rfl rfl ?_
  exact Wk.retN W5 hx (1 : Int32) (t := .boolean) rfl (by simp) hret hlk (hb hby d18_24) (by decide) (by decide) rfl
def QMk (Z : State) (cz : Int32) (x0 : Int32) (h0 : Heap) : Option Value → Heap → Prop := fun v h => ∃ r : Value, v = some r ∧ r.isRef = true ∧ OS Z h r ∧ (r = .null → x0 &&& 3 = 0) ∧ (x0 &&& 3 = 0 → r = .null)
set_option maxRecDepth 65536 in
set_option maxHeartbeats 40000000 in
theorem rmMk (l : Launch) (Z : State) (a0 : Array Value) (hw : ∀ d ∈ tables_1, d.before a0 Z = true) (cz : Int32) (x0 : Int32) (h0 : Heap) (O : Ext Z.heap h0) (hCS : Sta Z Z.heap "java/lang/String" "COMPACT_STRINGS" "Z" (.int cz)) (hcz : ¬ cz = 0) :
    CW [] l Z consts_1 (⟨"com/example/sitemark/sitemark/FeatureIdentifiedPinLaw", "str", "(I)Ljava/lang/String;"⟩ : MethodName) method_2_code 4 (Option.some (Jvm.ClassFile.FieldType.object "java/lang/String")) ({ frames := 4, cells := 6, slots := 12, locals := 68 } : Room) #[(.int x0)] h0 [] (QMk Z cz x0 h0) := by
  refine CW.of_walk (plainFor_of_name pn6) O (fun _ q => nomatch q) ?_
  intro p e s m below meth c T0 W0 hsf hx hby hml hoZ hnm hret hlk
  have H0 := W0.here; have hz0 := W0.zsize; have hEL := elw hw
  refine Goes.cast (ef9 m x0) ?_
  refine G.iloadN H0 hx 1 (hb hby d1_0) rfl rfl ?_
  refine G.iconst H0 hx 2 (3 : Int32) (hb hby d1_1) rfl rfl ?_
  refine G.iand H0 hx 3 (hb hby d1_2) rfl ?_
  refine G.istoreN H0 hx 4 (fun v => #[.val (.int x0), .val (.int v), .unset, .unset]) (hb hby d1_3) (fun _ => rfl) rfl ?_
  intro v1 hv1
  refine G.iloadN H0 hx 5 (hb hby d1_4) rfl rfl ?_
  by_cases c5_2 : v1 = 0
  ·
    refine G.ifN H0 hx 8 (hb hby d1_5) (zeq c5_2).2 rfl ?_
    refine G.aconstNull H0 hx 9 (hb hby d1_8) rfl ?_
    exact Wk.retAW W0 hx hEL (t := (.object "java/lang/String")) rfl rfl hret hlk (hb hby d1_9) (by decide) (by decide) ⟨_, rfl, rfl, Or.inl rfl, fun _ => by rw [← hv1]; exact c5_2, fun _ => rfl⟩
  ·
    refine G.ifY H0 hx 10 (hb hby d1_5) (zne c5_2).2 (by decide) rfl ?_
    refine G.iloadN H0 hx 11 (hb hby d1_10) rfl rfl ?_
    refine G.iconst H0 hx 12 (1 : Int32) (hb hby d1_11) rfl rfl ?_
    by_cases c12_3 : v1 = (1 : Int32)
    ·
      refine G.icmpN H0 hx 15 (hb hby d1_12) (teq c12_3).2 rfl ?_
      refine Wk.newO W0 hx hoZ (wd hw 5 rfl) (wd hw 6 rfl) (wd hw 7 rfl) 18 (hb hby d1_15) rfl (by decide) (by decide) ?_
      intro T4 h4 a4 W4 E4 g4 A4 D4 S4
      have H4 := W4.here; have z4 := E4.1; have gu4 := Nat.le_of_eq g4; have gt4 := Nat.le_of_eq g4.symm; have l4 := ltN A4.lt
      refine G.dup H4 hx 19 (hb hby d1_18) rfl rfl ?_
      refine G.iconst H4 hx 20 (0 : Int32) (hb hby d1_19) rfl rfl ?_
      refine Wk.newP W4 hx (wd hw 4 rfl) 22 (hb hby d1_20) (by decide) 0 (by decide) rfl (by decide) (by decide) (by decide) ?_
      intro T5 h5 a5 k5 W5 E5 g5 V5 S5
      have H5 := W5.here; have z5 := E5.1; have gu5 := Nat.le_of_eq g5; have gt5 := Nat.le_of_eq g5.symm; have l5 := ltN V5.lt
      have V5 : Arv Z h5 a5 k5 .char (0 : Int32) [] (.int (0 : Int32)) := V5
      refine Wk.specialW W5 hx hoZ (y := (⟨"java/lang/String", "<init>", "([C)V"⟩ : MethodName)) rfl (wd hw 8 rfl) (wd hw 9 rfl) (wd hw 10 rfl) (by decide) (Wd := 1) (CW.back (rmEm1 l Z a0 hw a4 a5 k5 h5 W5.old (by omega) (A4.ext E5) ((D4 (Or.inr (wd hw 33 rfl)) (ty := (.array .byte)) (by decide)).ext E5) ((D4 (Or.inr (wd hw 31 rfl)) (ty := .byte) (by decide)).ext E5) V5) W5.warm (wd hw 10 rfl) (wd hw 7 rfl) (by decide) (by decide) hEL W5.ch (all1 (by omega)) (ala ((CHr.ext E5 W4.ch).safe (ltA (by omega)) S4) ala0)) a4 (by rw [hml]; rfl) [(.ref a5)] [(.ref a4)] (lenOf pd9 rfl) rfl rfl (Nat.le_of_eq rfl) 25 (hb hby d1_22) rfl (by decide) (by decide) (hws1 (Or.inr (by omega)) ((CHr.ext E5 W4.ch).safe (ltA (by omega)) S4)) ?_
      intro v6 vm6 T6 h6 W6 K6 C6 Q6
      have H6 := W6.here; have z6 := K6.1
      obtain ⟨rfl, Sv6⟩ := Q6
      show Goes p e below (PostW s Z consts_1 h0 [] (QMk Z cz x0 h0) ({ frames := 4, cells := 6, slots := 12, locals := 68 } : Room).cells ({ frames := 4, cells := 6, slots := 12, locals := 68 } : Room).slots) (T6.setTop (mkF m 25 #[.val (.int x0), .val (.int v1), .unset, .unset] [(.ref a4)]))
      exact Wk.retAW W6 hx hEL (t := (.object "java/lang/String")) rfl rfl hret hlk (hb hby d1_25) (by decide) (by decide) ⟨_, rfl, rfl, Or.inr ⟨_, rfl, Sv6.exa⟩, (fun q => nomatch q), fun q => absurd (by rw [hv1]; exact q) c5_2⟩
    ·
      refine G.icmpY H0 hx 26 (hb hby d1_12) (feq c12_3).2 (by decide) rfl ?_
      refine G.iloadN H0 hx 27 (hb hby d1_26) rfl rfl ?_
      refine G.iconst H0 hx 28 (2 : Int32) (hb hby d1_27) rfl rfl ?_
      refine G.iushr H0 hx 29 (hb hby d1_28) rfl ?_
      refine G.sipush H0 hx 32 (255 : Int32) (hb hby d1_29) rfl rfl ?_
      refine G.iand H0 hx 33 (hb hby d1_32) rfl ?_
      refine G.i2c H0 hx 34 (hb hby d1_33) rfl ?_
      refine G.istoreN H0 hx 35 (fun v => #[.val (.int x0), .val (.int v1), .val (.int v), .unset]) (hb hby d1_34) (fun _ => rfl) rfl ?_
      intro v7 hv7
      refine G.iloadN H0 hx 36 (hb hby d1_35) rfl rfl ?_
      refine G.iconst H0 hx 37 (2 : Int32) (hb hby d1_36) rfl rfl ?_
      by_cases c37_8 : v1 = (2 : Int32)
      ·
        refine G.icmpN H0 hx 40 (hb hby d1_37) (teq c37_8).2 rfl ?_
        refine G.iloadN H0 hx 41 (hb hby d1_40) rfl rfl ?_
        refine Wk.callS W0 hx hoZ (y := (⟨"java/lang/String", "valueOf", "(C)Ljava/lang/String;"⟩ : MethodName)) (wd hw 34 rfl) (wd hw 35 rfl) (wd hw 7 rfl) (wd hw 36 rfl) (by decide) (Wd := 0) (CN.back (rmVOf l Z a0 hw cz v7 h0 W0.old hCS hcz (own_n hv7)) W0.warm (wd hw 36 rfl) (wd hw 7 rfl) (by decide) (by decide)) (by rw [hml]; rfl) [(.int v7)] [] (lenOf pd10 rfl) rfl rfl (Nat.le_of_eq rfl) 44 (hb hby d1_41) rfl (by decide) (by decide) (fun _ q => nomatch q) ?_
        intro v9 T9 h9 W9 K9 C9 Q9
        have H9 := W9.here; have z9 := K9.1
        obtain ⟨a9, rfl, g9, Sv9⟩ := Q9; have l9 := ltN Sv9.lt
        show Goes p e below (PostW s Z consts_1 h0 [] (QMk Z cz x0 h0) ({ frames := 4, cells := 6, slots := 12, locals := 68 } : Room).cells ({ frames := 4, cells := 6, slots := 12, locals := 68 } : Room).slots) (T9.setTop (mkF m 44 #[.val (.int x0), .val (.int v1), .val (.int v7), .unset] [(.ref a9)]))
        exact Wk.retAW W9 hx hEL (t := (.object "java/lang/String")) rfl rfl hret hlk (hb hby d1_44) (by decide) (by decide) ⟨_, rfl, rfl, Or.inr ⟨_, rfl, Sv9.exa⟩, (fun q => nomatch q), fun q => absurd (by rw [hv1]; exact q) c5_2⟩
      ·
        refine G.icmpY H0 hx 45 (hb hby d1_37) (feq c37_8).2 (by decide) rfl ?_
        refine G.iconst H0 hx 46 (2 : Int32) (hb hby d1_45) rfl rfl ?_
        refine Wk.newP W0 hx (wd hw 4 rfl) 48 (hb hby d1_46) (by decide) 2 (by decide) rfl (by decide) (by decide) (by decide) ?_
        intro T10 h10 a10 k10 W10 E10 g10 V10 S10
        have H10 := W10.here; have z10 := E10.1; have gu10 := Nat.le_of_eq g10; have gt10 := Nat.le_of_eq g10.symm; have l10 := ltN V10.lt
        have V10 : Arv Z h10 a10 k10 .char (2 : Int32) [(.int (0 : Int32)), (.int (0 : Int32))] (.int (0 : Int32)) := V10
        refine G.astoreN H10 hx 49 #[.val (.int x0), .val (.int v1), .val (.int v7), .val (.ref a10)] (hb hby d1_48) rfl rfl rfl ?_
        refine G.aloadN H10 hx 50 (hb hby d1_49) rfl rfl rfl ?_
        refine G.iconst H10 hx 51 (0 : Int32) (hb hby d1_50) rfl rfl ?_
        refine G.iloadN H10 hx 52 (hb hby d1_51) rfl rfl ?_
        refine Wk.castore W10 hx V10 (Or.inr (by omega)) v7 (nar_c16 (own_n hv7).up) 0 rfl ⟨by decide, by decide⟩ (Nat.le_of_ble_eq_true rfl) 53 (hb hby d1_52) rfl ?_
        intro T11 h11 W11 K11 C11 V11; have H11 := W11.here; have z11 := K11.1
        have V11 : Arv Z h11 a10 k10 .char (2 : Int32) [(.int v7), (.int (0 : Int32))] (.int (0 : Int32)) := V11
        refine G.aloadN H11 hx 54 (hb hby d1_53) rfl rfl rfl ?_
        refine G.iconst H11 hx 55 (1 : Int32) (hb hby d1_54) rfl rfl ?_
        refine G.iloadN H11 hx 56 (hb hby d1_55) rfl rfl ?_
        refine G.bipush H11 hx 58 (10 : Int32) (hb hby d1_56) rfl rfl ?_
        refine G.iushr H11 hx 59 (hb hby d1_58) rfl ?_
        refine G.sipush H11 hx 62 (255 : Int32) (hb hby d1_59) rfl rfl ?_
        refine G.iand H11 hx 63 (hb hby d1_62) rfl ?_
        refine G.i2c H11 hx 64 (hb hby d1_63) rfl ?_
        refine Wk.castore W11 hx V11 (Or.inr (by omega)) (OwnKit.i2c ((XT.ushr x0 (10 : Int32)) &&& (255 : Int32))) (nar_c16 (i2c_c8 _).up) 1 rfl ⟨by decide, by decide⟩ (Nat.le_of_ble_eq_true rfl) 65 (hb hby d1_64) rfl ?_
        intro T12 h12 W12 K12 C12 V12; have H12 := W12.here; have z12 := K12.1
        have V12 : Arv Z h12 a10 k10 .char (2 : Int32) [(.int v7), (.int (OwnKit.i2c ((XT.ushr x0 (10 : Int32)) &&& (255 : Int32))))] (.int (0 : Int32)) := V12
        refine Wk.newO W12 hx hoZ (wd hw 5 rfl) (wd hw 6 rfl) (wd hw 7 rfl) 68 (hb hby d1_65) rfl (by decide) (by decide) ?_
        intro T13 h13 a13 W13 E13 g13 A13 D13 S13
        have H13 := W13.here; have z13 := E13.1; have gu13 := Nat.le_of_eq g13; have gt13 := Nat.le_of_eq g13.symm; have l13 := ltN A13.lt
        refine G.dup H13 hx 69 (hb hby d1_68) rfl rfl ?_
        refine G.aloadN H13 hx 70 (hb hby d1_69) rfl rfl rfl ?_
        refine Wk.special W13 hx hoZ (y := (⟨"java/lang/String", "<init>", "([C)V"⟩ : MethodName)) rfl (wd hw 8 rfl) (wd hw 9 rfl) (wd hw 10 rfl) (by decide) (Wd := 1) (newS W13.warm (wsNew hw) (wd hw 6 rfl) W13.old (by omega) A13 (D13 (Or.inr (wd hw 33 rfl)) (ty := (.array .byte)) (by decide)) (D13 (Or.inr (wd hw 31 rfl)) (ty := .byte) (by decide)) (cs := [v7, (OwnKit.i2c ((XT.ushr x0 (10 : Int32)) &&& (255 : Int32)))]) (V12.ext E13) hCS hcz 2 rfl rfl (by decide) (by decide) (ala (own_n hv7) (ala (i2c_c8 _) (ala0))) (by decide) (by decide)) a13 (by rw [hml]; rfl) [(.ref a10)] [(.ref a13)] (lenOf pd9 rfl) rfl rfl (Nat.le_of_eq rfl) 73 (hb hby d1_70) rfl (by decide) (by decide) (hws1 (Or.inr (by omega)) S13) ?_
        intro v14 T14 h14 W14 K14 C14 Q14
        have H14 := W14.here; have z14 := K14.1
        obtain ⟨rfl, Sv14⟩ := Q14
        show Goes p e below (PostW s Z consts_1 h0 [] (QMk Z cz x0 h0) ({ frames := 4, cells := 6, slots := 12, locals := 68 } : Room).cells ({ frames := 4, cells := 6, slots := 12, locals := 68 } : Room).slots) (T14.setTop (mkF m 73 #[.val (.int x0), .val (.int v1), .val (.int v7), .val (.ref a10)] [(.ref a13)]))
        exact Wk.retAW W14 hx hEL (t := (.object "java/lang/String")) rfl rfl hret hlk (hb hby d1_73) (by decide) (by decide) ⟨_, rfl, rfl, Or.inr ⟨_, rfl, Sv14.exa⟩, (fun q => nomatch q), fun q => absurd (by rw [hv1]; exact q) c5_2⟩
def QFin_ (Z : State) (a : Addr) (x0 : Value) (x1 : Value) (x2 : Value) (x3 : Int32) (x4 : Value) (x5 : Value) (x6 : Value) (x7 : Value) (x8 : Value) (h0 : Heap) : Option Value → Heap → Prop := fun v h => v = none ∧ Exa Z h a "com/example/sitemark/sitemark/SiteMap$Feature" ∧ Fld Z h a "com/example/sitemark/sitemark/SiteMap$Feature" "url" "Ljava/lang/String;" x0 ∧ Fld Z h a "com/example/sitemark/sitemark/SiteMap$Feature" "id" "Ljava/lang/String;" x1 ∧ Fld Z h a "com/example/sitemark/sitemark/SiteMap$Feature" "version" "Ljava/lang/String;" x2 ∧ Fld Z h a "com/example/sitemark/sitemark/SiteMap$Feature" "patch" "Z" (.int x3) ∧ Fld Z h a "com/example/sitemark/sitemark/SiteMap$Feature" "categories" "Ljava/util/List;" x4 ∧ Fld Z h a "com/example/sitemark/sitemark/SiteMap$Feature" "os" "Ljava/lang/String;" x5 ∧ Fld Z h a "com/example/sitemark/sitemark/SiteMap$Feature" "ws" "Ljava/lang/String;" x6 ∧ Fld Z h a "com/example/sitemark/sitemark/SiteMap$Feature" "arch" "Ljava/lang/String;" x7 ∧ Fld Z h a "com/example/sitemark/sitemark/SiteMap$Feature" "nl" "Ljava/lang/String;" x8
set_option maxRecDepth 65536 in
set_option maxHeartbeats 40000000 in
theorem rmFin_ (l : Launch) (Z : State) (a0 : Array Value) (hw : ∀ d ∈ tables_1, d.before a0 Z = true) (a : Addr) (x0 : Value) (x1 : Value) (x2 : Value) (x3 : Int32) (x4 : Value) (x5 : Value) (x6 : Value) (x7 : Value) (x8 : Value) (h0 : Heap) (O : Ext Z.heap h0) (gz_a : Z.heap.size ≤ a) (Ea : Exa Z h0 a "com/example/sitemark/sitemark/SiteMap$Feature") (hr0 : x0.isRef = true) (hr1 : x1.isRef = true) (hr2 : x2.isRef = true) (hb3 : x3 = 0 ∨ x3 = 1) (hr4 : x4.isRef = true) (hr5 : x5.isRef = true) (hr6 : x6.isRef = true) (hr7 : x7.isRef = true) (hr8 : x8.isRef = true) (F_url : Fld Z h0 a "com/example/sitemark/sitemark/SiteMap$Feature" "url" "Ljava/lang/String;" .null) (F_id : Fld Z h0 a "com/example/sitemark/sitemark/SiteMap$Feature" "id" "Ljava/lang/String;" .null) (F_version : Fld Z h0 a "com/example/sitemark/sitemark/SiteMap$Feature" "version" "Ljava/lang/String;" .null) (F_patch : Fld Z h0 a "com/example/sitemark/sitemark/SiteMap$Feature" "patch" "Z" (.int 0)) (F_categories : Fld Z h0 a "com/example/sitemark/sitemark/SiteMap$Feature" "categories" "Ljava/util/List;" .null) (F_os : Fld Z h0 a "com/example/sitemark/sitemark/SiteMap$Feature" "os" "Ljava/lang/String;" .null) (F_ws : Fld Z h0 a "com/example/sitemark/sitemark/SiteMap$Feature" "ws" "Ljava/lang/String;" .null) (F_arch : Fld Z h0 a "com/example/sitemark/sitemark/SiteMap$Feature" "arch" "Ljava/lang/String;" .null) (F_nl : Fld Z h0 a "com/example/sitemark/sitemark/SiteMap$Feature" "nl" "Ljava/lang/String;" .null) :
    CN [] l Z (⟨"com/example/sitemark/sitemark/SiteMap$Feature", "<init>", "(Ljava/lang/String;Ljava/lang/String;Ljava/lang/String;ZLjava/util/List;Ljava/lang/String;Ljava/lang/String;Ljava/lang/String;Ljava/lang/String;)V"⟩ : MethodName) prog_46_method_1_code 10 (Option.none : Option Jvm.ClassFile.FieldType) ({ frames := 2, cells := 0, slots := 0, locals := 30 } : Room) #[(.ref a), x0, x1, x2, (.int x3), x4, x5, x6, x7, x8] h0 [a] (QFin_ Z a x0 x1 x2 x3 x4 x5 x6 x7 x8 h0) := by
  refine CN.of_walk (plainFor_of_name pn7) O (ala gz_a ala0) ?_
  intro p e s m below meth c T0 W0 hx hby hml hoZ hnm hret hlk
  have H0 := W0.here; have hz0 := W0.zsize
  refine Goes.cast (ef10 m a x0 (cat_ref hr0) x1 (cat_ref hr1) x2 (cat_ref hr2) x3 x4 (cat_ref hr4) x5 (cat_ref hr5) x6 (cat_ref hr6) x7 (cat_ref hr7) x8 (cat_ref hr8)) ?_
  refine G.aloadN H0 hx 1 (hb hby d15_0) rfl rfl rfl ?_
  refine Wk.special W0 hx hoZ (y := (⟨"java/lang/Record", "<init>", "()V"⟩ : MethodName)) rfl (wd hw 81 rfl) (wd hw 82 rfl) (wd hw 85 rfl) (by decide) (Wd := 0) (CN.back (rmRec l Z a0 hw a h0 W0.old ) W0.warm (wd hw 85 rfl) (wd hw 84 rfl) (by decide) (by decide)) a (by rw [hml]; rfl) [] [] (lenOf pd4 rfl) rfl rfl (Nat.le_of_eq rfl) 4 (hb hby d15_1) rfl (by decide) (by decide) (fun _ q => nomatch q) ?_
  intro v1 T1 h1 W1 K1 C1 Q1
  have H1 := W1.here; have z1 := K1.1
  obtain ⟨rfl, eh1⟩ := Q1
  show Goes p e below (PostN s Z h0 [a] (QFin_ Z a x0 x1 x2 x3 x4 x5 x6 x7 x8 h0) ({ frames := 2, cells := 0, slots := 0, locals := 30 } : Room).cells ({ frames := 2, cells := 0, slots := 0, locals := 30 } : Room).slots) (T1.setTop (mkF m 4 #[.val (.ref a), .val x0, .val x1, .val x2, .val (.int x3), .val x4, .val x5, .val x6, .val x7, .val x8] []))
  refine G.aloadN H1 hx 5 (hb hby d15_4) rfl rfl rfl ?_
  refine G.aloadN H1 hx 6 (hb hby d15_5) rfl hr0 rfl ?_
  refine Wk.putF W1 hx hoZ (wd hw 87 rfl) Via.refl x0 (F_url.keep K1 nin0) (Ea.keep K1) (Or.inr ⟨(wd hw 88 rfl), rfl, hnm⟩) (wd hw 76 rfl) (ty := (.object "java/lang/String")) (by decide) (ref_nar rfl hr0).1 (ref_nar rfl hr0).2 (Or.inl (by simp)) safe0 9 (hb hby d15_6) rfl ?_
  intro T2 h2 W2 R2 C2; have H2 := W2.here; have z2 := R2.size
  have F2 := ((F_url.keep K1 nin0)).same R2
  refine G.aloadN H2 hx 10 (hb hby d15_9) rfl rfl rfl ?_
  refine G.aloadN H2 hx 11 (hb hby d15_10) rfl hr1 rfl ?_
  refine Wk.putF W2 hx hoZ (wd hw 89 rfl) Via.refl x1 ((F_id.keep K1 nin0).other R2 (Or.inr (slot_ne (Or.inr (wd hw 90 rfl)) (Or.inr (wd hw 88 rfl)) (by decide) (t := (.object "java/lang/String")) (t' := (.object "java/lang/String")) (by decide) (by decide)))) ((Ea.keep K1).wr R2) (Or.inr ⟨(wd hw 90 rfl), rfl, hnm⟩) (wd hw 76 rfl) (ty := (.object "java/lang/String")) (by decide) (ref_nar rfl hr1).1 (ref_nar rfl hr1).2 (Or.inl (by simp)) safe0 14 (hb hby d15_11) rfl ?_
  intro T3 h3 W3 R3 C3; have H3 := W3.here; have z3 := R3.size
  have F3 := (((F_id.keep K1 nin0).other R2 (Or.inr (slot_ne (Or.inr (wd hw 90 rfl)) (Or.inr (wd hw 88 rfl)) (by decide) (t := (.object "java/lang/String")) (t' := (.object "java/lang/String")) (by decide) (by decide))))).same R3
  refine G.aloadN H3 hx 15 (hb hby d15_14) rfl rfl rfl ?_
  refine G.aloadN H3 hx 16 (hb hby d15_15) rfl hr2 rfl ?_
  refine Wk.putF W3 hx hoZ (wd hw 91 rfl) Via.refl x2 (((F_version.keep K1 nin0).other R2 (Or.inr (slot_ne (Or.inr (wd hw 92 rfl)) (Or.inr (wd hw 88 rfl)) (by decide) (t := (.object "java/lang/String")) (t' := (.object "java/lang/String")) (by decide) (by decide)))).other R3 (Or.inr (slot_ne (Or.inr (wd hw 92 rfl)) (Or.inr (wd hw 90 rfl)) (by decide) (t := (.object "java/lang/String")) (t' := (.object "java/lang/String")) (by decide) (by decide)))) (((Ea.keep K1).wr R2).wr R3) (Or.inr ⟨(wd hw 92 rfl), rfl, hnm⟩) (wd hw 76 rfl) (ty := (.object "java/lang/String")) (by decide) (ref_nar rfl hr2).1 (ref_nar rfl hr2).2 (Or.inl (by simp)) safe0 19 (hb hby d15_16) rfl ?_
  intro T4 h4 W4 R4 C4; have H4 := W4.here; have z4 := R4.size
  have F4 := ((((F_version.keep K1 nin0).other R2 (Or.inr (slot_ne (Or.inr (wd hw 92 rfl)) (Or.inr (wd hw 88 rfl)) (by decide) (t := (.object "java/lang/String")) (t' := (.object "java/lang/String")) (by decide) (by decide)))).other R3 (Or.inr (slot_ne (Or.inr (wd hw 92 rfl)) (Or.inr (wd hw 90 rfl)) (by decide) (t := (.object "java/lang/String")) (t' := (.object "java/lang/String")) (by decide) (by decide))))).same R4
  refine G.aloadN H4 hx 20 (hb hby d15_19) rfl rfl rfl ?_
  refine G.iload H4 hx 22 (hb hby d15_20) rfl rfl ?_
  refine Wk.putF W4 hx hoZ (wd hw 93 rfl) Via.refl (.int x3) ((((F_patch.keep K1 nin0).other R2 (Or.inr (slot_ne (Or.inr (wd hw 94 rfl)) (Or.inr (wd hw 88 rfl)) (by decide) (t := .boolean) (t' := (.object "java/lang/String")) (by decide) (by decide)))).other R3 (Or.inr (slot_ne (Or.inr (wd hw 94 rfl)) (Or.inr (wd hw 90 rfl)) (by decide) (t := .boolean) (t' := (.object "java/lang/String")) (by decide) (by decide)))).other R4 (Or.inr (slot_ne (Or.inr (wd hw 94 rfl)) (Or.inr (wd hw 92 rfl)) (by decide) (t := .boolean) (t' := (.object "java/lang/String")) (by decide) (by decide)))) ((((Ea.keep K1).wr R2).wr R3).wr R4) (Or.inr ⟨(wd hw 94 rfl), rfl, hnm⟩) (wd hw 76 rfl) (ty := .boolean) (by decide) (bool_nar hb3).1 (bool_nar hb3).2 (Or.inl (by simp)) safe0 25 (hb hby d15_22) rfl ?_
  intro T5 h5 W5 R5 C5; have H5 := W5.here; have z5 := R5.size
  have F5 := (((((F_patch.keep K1 nin0).other R2 (Or.inr (slot_ne (Or.inr (wd hw 94 rfl)) (Or.inr (wd hw 88 rfl)) (by decide) (t := .boolean) (t' := (.object "java/lang/String")) (by decide) (by decide)))).other R3 (Or.inr (slot_ne (Or.inr (wd hw 94 rfl)) (Or.inr (wd hw 90 rfl)) (by decide) (t := .boolean) (t' := (.object "java/lang/String")) (by decide) (by decide)))).other R4 (Or.inr (slot_ne (Or.inr (wd hw 94 rfl)) (Or.inr (wd hw 92 rfl)) (by decide) (t := .boolean) (t' := (.object "java/lang/String")) (by decide) (by decide))))).same R5
  refine G.aloadN H5 hx 26 (hb hby d15_25) rfl rfl rfl ?_
  refine G.aload H5 hx 28 (hb hby d15_26) rfl hr4 rfl ?_
  refine Wk.putF W5 hx hoZ (wd hw 95 rfl) Via.refl x4 (((((F_categories.keep K1 nin0).other R2 (Or.inr (slot_ne (Or.inr (wd hw 96 rfl)) (Or.inr (wd hw 88 rfl)) (by decide) (t := (.object "java/util/List")) (t' := (.object "java/lang/String")) (by decide) (by decide)))).other R3 (Or.inr (slot_ne (Or.inr (wd hw 96 rfl)) (Or.inr (wd hw 90 rfl)) (by decide) (t := (.object "java/util/List")) (t' := (.object "java/lang/String")) (by decide) (by decide)))).other R4 (Or.inr (slot_ne (Or.inr (wd hw 96 rfl)) (Or.inr (wd hw 92 rfl)) (by decide) (t := (.object "java/util/List")) (t' := (.object "java/lang/String")) (by decide) (by decide)))).other R5 (Or.inr (slot_ne (Or.inr (wd hw 96 rfl)) (Or.inr (wd hw 94 rfl)) (by decide) (t := (.object "java/util/List")) (t' := .boolean) (by decide) (by decide)))) (((((Ea.keep K1).wr R2).wr R3).wr R4).wr R5) (Or.inr ⟨(wd hw 96 rfl), rfl, hnm⟩) (wd hw 76 rfl) (ty := (.object "java/util/List")) (by decide) (ref_nar rfl hr4).1 (ref_nar rfl hr4).2 (Or.inl (by simp)) safe0 31 (hb hby d15_28) rfl ?_
  intro T6 h6 W6 R6 C6; have H6 := W6.here; have z6 := R6.size
  have F6 := ((((((F_categories.keep K1 nin0).other R2 (Or.inr (slot_ne (Or.inr (wd hw 96 rfl)) (Or.inr (wd hw 88 rfl)) (by decide) (t := (.object "java/util/List")) (t' := (.object "java/lang/String")) (by decide) (by decide)))).other R3 (Or.inr (slot_ne (Or.inr (wd hw 96 rfl)) (Or.inr (wd hw 90 rfl)) (by decide) (t := (.object "java/util/List")) (t' := (.object "java/lang/String")) (by decide) (by decide)))).other R4 (Or.inr (slot_ne (Or.inr (wd hw 96 rfl)) (Or.inr (wd hw 92 rfl)) (by decide) (t := (.object "java/util/List")) (t' := (.object "java/lang/String")) (by decide) (by decide)))).other R5 (Or.inr (slot_ne (Or.inr (wd hw 96 rfl)) (Or.inr (wd hw 94 rfl)) (by decide) (t := (.object "java/util/List")) (t' := .boolean) (by decide) (by decide))))).same R6
  refine G.aloadN H6 hx 32 (hb hby d15_31) rfl rfl rfl ?_
  refine G.aload H6 hx 34 (hb hby d15_32) rfl hr5 rfl ?_
  refine Wk.putF W6 hx hoZ (wd hw 97 rfl) Via.refl x5 ((((((F_os.keep K1 nin0).other R2 (Or.inr (slot_ne (Or.inr (wd hw 98 rfl)) (Or.inr (wd hw 88 rfl)) (by decide) (t := (.object "java/lang/String")) (t' := (.object "java/lang/String")) (by decide) (by decide)))).other R3 (Or.inr (slot_ne (Or.inr (wd hw 98 rfl)) (Or.inr (wd hw 90 rfl)) (by decide) (t := (.object "java/lang/String")) (t' := (.object "java/lang/String")) (by decide) (by decide)))).other R4 (Or.inr (slot_ne (Or.inr (wd hw 98 rfl)) (Or.inr (wd hw 92 rfl)) (by decide) (t := (.object "java/lang/String")) (t' := (.object "java/lang/String")) (by decide) (by decide)))).other R5 (Or.inr (slot_ne (Or.inr (wd hw 98 rfl)) (Or.inr (wd hw 94 rfl)) (by decide) (t := (.object "java/lang/String")) (t' := .boolean) (by decide) (by decide)))).other R6 (Or.inr (slot_ne (Or.inr (wd hw 98 rfl)) (Or.inr (wd hw 96 rfl)) (by decide) (t := (.object "java/lang/String")) (t' := (.object "java/util/List")) (by decide) (by decide)))) ((((((Ea.keep K1).wr R2).wr R3).wr R4).wr R5).wr R6) (Or.inr ⟨(wd hw 98 rfl), rfl, hnm⟩) (wd hw 76 rfl) (ty := (.object "java/lang/String")) (by decide) (ref_nar rfl hr5).1 (ref_nar rfl hr5).2 (Or.inl (by simp)) safe0 37 (hb hby d15_34) rfl ?_
  intro T7 h7 W7 R7 C7; have H7 := W7.here; have z7 := R7.size
  have F7 := (((((((F_os.keep K1 nin0).other R2 (Or.inr (slot_ne (Or.inr (wd hw 98 rfl)) (Or.inr (wd hw 88 rfl)) (by decide) (t := (.object "java/lang/String")) (t' := (.object "java/lang/String")) (by decide) (by decide)))).other R3 (Or.inr (slot_ne (Or.inr (wd hw 98 rfl)) (Or.inr (wd hw 90 rfl)) (by decide) (t := (.object "java/lang/String")) (t' := (.object "java/lang/String")) (by decide) (by decide)))).other R4 (Or.inr (slot_ne (Or.inr (wd hw 98 rfl)) (Or.inr (wd hw 92 rfl)) (by decide) (t := (.object "java/lang/String")) (t' := (.object "java/lang/String")) (by decide) (by decide)))).other R5 (Or.inr (slot_ne (Or.inr (wd hw 98 rfl)) (Or.inr (wd hw 94 rfl)) (by decide) (t := (.object "java/lang/String")) (t' := .boolean) (by decide) (by decide)))).other R6 (Or.inr (slot_ne (Or.inr (wd hw 98 rfl)) (Or.inr (wd hw 96 rfl)) (by decide) (t := (.object "java/lang/String")) (t' := (.object "java/util/List")) (by decide) (by decide))))).same R7
  refine G.aloadN H7 hx 38 (hb hby d15_37) rfl rfl rfl ?_
  refine G.aload H7 hx 40 (hb hby d15_38) rfl hr6 rfl ?_
  refine Wk.putF W7 hx hoZ (wd hw 99 rfl) Via.refl x6 (((((((F_ws.keep K1 nin0).other R2 (Or.inr (slot_ne (Or.inr (wd hw 100 rfl)) (Or.inr (wd hw 88 rfl)) (by decide) (t := (.object "java/lang/String")) (t' := (.object "java/lang/String")) (by decide) (by decide)))).other R3 (Or.inr (slot_ne (Or.inr (wd hw 100 rfl)) (Or.inr (wd hw 90 rfl)) (by decide) (t := (.object "java/lang/String")) (t' := (.object "java/lang/String")) (by decide) (by decide)))).other R4 (Or.inr (slot_ne (Or.inr (wd hw 100 rfl)) (Or.inr (wd hw 92 rfl)) (by decide) (t := (.object "java/lang/String")) (t' := (.object "java/lang/String")) (by decide) (by decide)))).other R5 (Or.inr (slot_ne (Or.inr (wd hw 100 rfl)) (Or.inr (wd hw 94 rfl)) (by decide) (t := (.object "java/lang/String")) (t' := .boolean) (by decide) (by decide)))).other R6 (Or.inr (slot_ne (Or.inr (wd hw 100 rfl)) (Or.inr (wd hw 96 rfl)) (by decide) (t := (.object "java/lang/String")) (t' := (.object "java/util/List")) (by decide) (by decide)))).other R7 (Or.inr (slot_ne (Or.inr (wd hw 100 rfl)) (Or.inr (wd hw 98 rfl)) (by decide) (t := (.object "java/lang/String")) (t' := (.object "java/lang/String")) (by decide) (by decide)))) (((((((Ea.keep K1).wr R2).wr R3).wr R4).wr R5).wr R6).wr R7) (Or.inr ⟨(wd hw 100 rfl), rfl, hnm⟩) (wd hw 76 rfl) (ty := (.object "java/lang/String")) (by decide) (ref_nar rfl hr6).1 (ref_nar rfl hr6).2 (Or.inl (by simp)) safe0 43 (hb hby d15_40) rfl ?_
  intro T8 h8 W8 R8 C8; have H8 := W8.here; have z8 := R8.size
  have F8 := ((((((((F_ws.keep K1 nin0).other R2 (Or.inr (slot_ne (Or.inr (wd hw 100 rfl)) (Or.inr (wd hw 88 rfl)) (by decide) (t := (.object "java/lang/String")) (t' := (.object "java/lang/String")) (by decide) (by decide)))).other R3 (Or.inr (slot_ne (Or.inr (wd hw 100 rfl)) (Or.inr (wd hw 90 rfl)) (by decide) (t := (.object "java/lang/String")) (t' := (.object "java/lang/String")) (by decide) (by decide)))).other R4 (Or.inr (slot_ne (Or.inr (wd hw 100 rfl)) (Or.inr (wd hw 92 rfl)) (by decide) (t := (.object "java/lang/String")) (t' := (.object "java/lang/String")) (by decide) (by decide)))).other R5 (Or.inr (slot_ne (Or.inr (wd hw 100 rfl)) (Or.inr (wd hw 94 rfl)) (by decide) (t := (.object "java/lang/String")) (t' := .boolean) (by decide) (by decide)))).other R6 (Or.inr (slot_ne (Or.inr (wd hw 100 rfl)) (Or.inr (wd hw 96 rfl)) (by decide) (t := (.object "java/lang/String")) (t' := (.object "java/util/List")) (by decide) (by decide)))).other R7 (Or.inr (slot_ne (Or.inr (wd hw 100 rfl)) (Or.inr (wd hw 98 rfl)) (by decide) (t := (.object "java/lang/String")) (t' := (.object "java/lang/String")) (by decide) (by decide))))).same R8
  refine G.aloadN H8 hx 44 (hb hby d15_43) rfl rfl rfl ?_
  refine G.aload H8 hx 46 (hb hby d15_44) rfl hr7 rfl ?_
  refine Wk.putF W8 hx hoZ (wd hw 101 rfl) Via.refl x7 ((((((((F_arch.keep K1 nin0).other R2 (Or.inr (slot_ne (Or.inr (wd hw 102 rfl)) (Or.inr (wd hw 88 rfl)) (by decide) (t := (.object "java/lang/String")) (t' := (.object "java/lang/String")) (by decide) (by decide)))).other R3 (Or.inr (slot_ne (Or.inr (wd hw 102 rfl)) (Or.inr (wd hw 90 rfl)) (by decide) (t := (.object "java/lang/String")) (t' := (.object "java/lang/String")) (by decide) (by decide)))).other R4 (Or.inr (slot_ne (Or.inr (wd hw 102 rfl)) (Or.inr (wd hw 92 rfl)) (by decide) (t := (.object "java/lang/String")) (t' := (.object "java/lang/String")) (by decide) (by decide)))).other R5 (Or.inr (slot_ne (Or.inr (wd hw 102 rfl)) (Or.inr (wd hw 94 rfl)) (by decide) (t := (.object "java/lang/String")) (t' := .boolean) (by decide) (by decide)))).other R6 (Or.inr (slot_ne (Or.inr (wd hw 102 rfl)) (Or.inr (wd hw 96 rfl)) (by decide) (t := (.object "java/lang/String")) (t' := (.object "java/util/List")) (by decide) (by decide)))).other R7 (Or.inr (slot_ne (Or.inr (wd hw 102 rfl)) (Or.inr (wd hw 98 rfl)) (by decide) (t := (.object "java/lang/String")) (t' := (.object "java/lang/String")) (by decide) (by decide)))).other R8 (Or.inr (slot_ne (Or.inr (wd hw 102 rfl)) (Or.inr (wd hw 100 rfl)) (by decide) (t := (.object "java/lang/String")) (t' := (.object "java/lang/String")) (by decide) (by decide)))) ((((((((Ea.keep K1).wr R2).wr R3).wr R4).wr R5).wr R6).wr R7).wr R8) (Or.inr ⟨(wd hw 102 rfl), rfl, hnm⟩) (wd hw 76 rfl) (ty := (.object "java/lang/String")) (by decide) (ref_nar rfl hr7).1 (ref_nar rfl hr7).2 (Or.inl (by simp)) safe0 49 (hb hby d15_46) rfl ?_
  intro T9 h9 W9 R9 C9; have H9 := W9.here; have z9 := R9.size
  have F9 := (((((((((F_arch.keep K1 nin0).other R2 (Or.inr (slot_ne (Or.inr (wd hw 102 rfl)) (Or.inr (wd hw 88 rfl)) (by decide) (t := (.object "java/lang/String")) (t' := (.object "java/lang/String")) (by decide) (by decide)))).other R3 (Or.inr (slot_ne (Or.inr (wd hw 102 rfl)) (Or.inr (wd hw 90 rfl)) (by decide) (t := (.object "java/lang/String")) (t' := (.object "java/lang/String")) (by decide) (by decide)))).other R4 (Or.inr (slot_ne (Or.inr (wd hw 102 rfl)) (Or.inr (wd hw 92 rfl)) (by decide) (t := (.object "java/lang/String")) (t' := (.object "java/lang/String")) (by decide) (by decide)))).other R5 (Or.inr (slot_ne (Or.inr (wd hw 102 rfl)) (Or.inr (wd hw 94 rfl)) (by decide) (t := (.object "java/lang/String")) (t' := .boolean) (by decide) (by decide)))).other R6 (Or.inr (slot_ne (Or.inr (wd hw 102 rfl)) (Or.inr (wd hw 96 rfl)) (by decide) (t := (.object "java/lang/String")) (t' := (.object "java/util/List")) (by decide) (by decide)))).other R7 (Or.inr (slot_ne (Or.inr (wd hw 102 rfl)) (Or.inr (wd hw 98 rfl)) (by decide) (t := (.object "java/lang/String")) (t' := (.object "java/lang/String")) (by decide) (by decide)))).other R8 (Or.inr (slot_ne (Or.inr (wd hw 102 rfl)) (Or.inr (wd hw 100 rfl)) (by decide) (t := (.object "java/lang/String")) (t' := (.object "java/lang/String")) (by decide) (by decide))))).same R9
  refine G.aloadN H9 hx 50 (hb hby d15_49) rfl rfl rfl ?_
  refine G.aload H9 hx 52 (hb hby d15_50) rfl hr8 rfl ?_
  refine Wk.putF W9 hx hoZ (wd hw 103 rfl) Via.refl x8 (((((((((F_nl.keep K1 nin0).other R2 (Or.inr (slot_ne (Or.inr (wd hw 104 rfl)) (Or.inr (wd hw 88 rfl)) (by decide) (t := (.object "java/lang/String")) (t' := (.object "java/lang/String")) (by decide) (by decide)))).other R3 (Or.inr (slot_ne (Or.inr (wd hw 104 rfl)) (Or.inr (wd hw 90 rfl)) (by decide) (t := (.object "java/lang/String")) (t' := (.object "java/lang/String")) (by decide) (by decide)))).other R4 (Or.inr (slot_ne (Or.inr (wd hw 104 rfl)) (Or.inr (wd hw 92 rfl)) (by decide) (t := (.object "java/lang/String")) (t' := (.object "java/lang/String")) (by decide) (by decide)))).other R5 (Or.inr (slot_ne (Or.inr (wd hw 104 rfl)) (Or.inr (wd hw 94 rfl)) (by decide) (t := (.object "java/lang/String")) (t' := .boolean) (by decide) (by decide)))).other R6 (Or.inr (slot_ne (Or.inr (wd hw 104 rfl)) (Or.inr (wd hw 96 rfl)) (by decide) (t := (.object "java/lang/String")) (t' := (.object "java/util/List")) (by decide) (by decide)))).other R7 (Or.inr (slot_ne (Or.inr (wd hw 104 rfl)) (Or.inr (wd hw 98 rfl)) (by decide) (t := (.object "java/lang/String")) (t' := (.object "java/lang/String")) (by decide) (by decide)))).other R8 (Or.inr (slot_ne (Or.inr (wd hw 104 rfl)) (Or.inr (wd hw 100 rfl)) (by decide) (t := (.object "java/lang/String")) (t' := (.object "java/lang/String")) (by decide) (by decide)))).other R9 (Or.inr (slot_ne (Or.inr (wd hw 104 rfl)) (Or.inr (wd hw 102 rfl)) (by decide) (t := (.object "java/lang/String")) (t' := (.object "java/lang/String")) (by decide) (by decide)))) (((((((((Ea.keep K1).wr R2).wr R3).wr R4).wr R5).wr R6).wr R7).wr R8).wr R9) (Or.inr ⟨(wd hw 104 rfl), rfl, hnm⟩) (wd hw 76 rfl) (ty := (.object "java/lang/String")) (by decide) (ref_nar rfl hr8).1 (ref_nar rfl hr8).2 (Or.inl (by simp)) safe0 55 (hb hby d15_52) rfl ?_
  intro T10 h10 W10 R10 C10; have H10 := W10.here; have z10 := R10.size
  have F10 := ((((((((((F_nl.keep K1 nin0).other R2 (Or.inr (slot_ne (Or.inr (wd hw 104 rfl)) (Or.inr (wd hw 88 rfl)) (by decide) (t := (.object "java/lang/String")) (t' := (.object "java/lang/String")) (by decide) (by decide)))).other R3 (Or.inr (slot_ne (Or.inr (wd hw 104 rfl)) (Or.inr (wd hw 90 rfl)) (by decide) (t := (.object "java/lang/String")) (t' := (.object "java/lang/String")) (by decide) (by decide)))).other R4 (Or.inr (slot_ne (Or.inr (wd hw 104 rfl)) (Or.inr (wd hw 92 rfl)) (by decide) (t := (.object "java/lang/String")) (t' := (.object "java/lang/String")) (by decide) (by decide)))).other R5 (Or.inr (slot_ne (Or.inr (wd hw 104 rfl)) (Or.inr (wd hw 94 rfl)) (by decide) (t := (.object "java/lang/String")) (t' := .boolean) (by decide) (by decide)))).other R6 (Or.inr (slot_ne (Or.inr (wd hw 104 rfl)) (Or.inr (wd hw 96 rfl)) (by decide) (t := (.object "java/lang/String")) (t' := (.object "java/util/List")) (by decide) (by decide)))).other R7 (Or.inr (slot_ne (Or.inr (wd hw 104 rfl)) (Or.inr (wd hw 98 rfl)) (by decide) (t := (.object "java/lang/String")) (t' := (.object "java/lang/String")) (by decide) (by decide)))).other R8 (Or.inr (slot_ne (Or.inr (wd hw 104 rfl)) (Or.inr (wd hw 100 rfl)) (by decide) (t := (.object "java/lang/String")) (t' := (.object "java/lang/String")) (by decide) (by decide)))).other R9 (Or.inr (slot_ne (Or.inr (wd hw 104 rfl)) (Or.inr (wd hw 102 rfl)) (by decide) (t := (.object "java/lang/String")) (t' := (.object "java/lang/String")) (by decide) (by decide))))).same R10
  exact Wk.retV W10 hx hret hlk (hb hby d15_55) (by decide) (by decide) ⟨rfl, ((((((((((Ea.keep K1).wr R2).wr R3).wr R4).wr R5).wr R6).wr R7).wr R8).wr R9).wr R10), ((((((((F2.other R3 (Or.inr (slot_ne (Or.inr (wd hw 88 rfl)) (Or.inr (wd hw 90 rfl)) (by decide) (t := (.object "java/lang/String")) (t' := (.object "java/lang/String")) (by decide) (by decide)))).other R4 (Or.inr (slot_ne (Or.inr (wd hw 88 rfl)) (Or.inr (wd hw 92 rfl)) (by decide) (t := (.object "java/lang/String")) (t' := (.object "java/lang/String")) (by decide) (by decide)))).other R5 (Or.inr (slot_ne (Or.inr (wd hw 88 rfl)) (Or.inr (wd hw 94 rfl)) (by decide) (t := (.object "java/lang/String")) (t' := .boolean) (by decide) (by decide)))).other R6 (Or.inr (slot_ne (Or.inr (wd hw 88 rfl)) (Or.inr (wd hw 96 rfl)) (by decide) (t := (.object "java/lang/String")) (t' := (.object "java/util/List")) (by decide) (by decide)))).other R7 (Or.inr (slot_ne (Or.inr (wd hw 88 rfl)) (Or.inr (wd hw 98 rfl)) (by decide) (t := (.object "java/lang/String")) (t' := (.object "java/lang/String")) (by decide) (by decide)))).other R8 (Or.inr (slot_ne (Or.inr (wd hw 88 rfl)) (Or.inr (wd hw 100 rfl)) (by decide) (t := (.object "java/lang/String")) (t' := (.object "java/lang/String")) (by decide) (by decide)))).other R9 (Or.inr (slot_ne (Or.inr (wd hw 88 rfl)) (Or.inr (wd hw 102 rfl)) (by decide) (t := (.object "java/lang/String")) (t' := (.object "java/lang/String")) (by decide) (by decide)))).other R10 (Or.inr (slot_ne (Or.inr (wd hw 88 rfl)) (Or.inr (wd hw 104 rfl)) (by decide) (t := (.object "java/lang/String")) (t' := (.object "java/lang/String")) (by decide) (by decide)))), (((((((F3.other R4 (Or.inr (slot_ne (Or.inr (wd hw 90 rfl)) (Or.inr (wd hw 92 rfl)) (by decide) (t := (.object "java/lang/String")) (t' := (.object "java/lang/String")) (by decide) (by decide)))).other R5 (Or.inr (slot_ne (Or.inr (wd hw 90 rfl)) (Or.inr (wd hw 94 rfl)) (by decide) (t := (.object "java/lang/String")) (t' := .boolean) (by decide) (by decide)))).other R6 (Or.inr (slot_ne (Or.inr (wd hw 90 rfl)) (Or.inr (wd hw 96 rfl)) (by decide) (t := (.object "java/lang/String")) (t' := (.object "java/util/List")) (by decide) (by decide)))).other R7 (Or.inr (slot_ne (Or.inr (wd hw 90 rfl)) (Or.inr (wd hw 98 rfl)) (by decide) (t := (.object "java/lang/String")) (t' := (.object "java/lang/String")) (by decide) (by decide)))).other R8 (Or.inr (slot_ne (Or.inr (wd hw 90 rfl)) (Or.inr (wd hw 100 rfl)) (by decide) (t := (.object "java/lang/String")) (t' := (.object "java/lang/String")) (by decide) (by decide)))).other R9 (Or.inr (slot_ne (Or.inr (wd hw 90 rfl)) (Or.inr (wd hw 102 rfl)) (by decide) (t := (.object "java/lang/String")) (t' := (.object "java/lang/String")) (by decide) (by decide)))).other R10 (Or.inr (slot_ne (Or.inr (wd hw 90 rfl)) (Or.inr (wd hw 104 rfl)) (by decide) (t := (.object "java/lang/String")) (t' := (.object "java/lang/String")) (by decide) (by decide)))), ((((((F4.other R5 (Or.inr (slot_ne (Or.inr (wd hw 92 rfl)) (Or.inr (wd hw 94 rfl)) (by decide) (t := (.object "java/lang/String")) (t' := .boolean) (by decide) (by decide)))).other R6 (Or.inr (slot_ne (Or.inr (wd hw 92 rfl)) (Or.inr (wd hw 96 rfl)) (by decide) (t := (.object "java/lang/String")) (t' := (.object "java/util/List")) (by decide) (by decide)))).other R7 (Or.inr (slot_ne (Or.inr (wd hw 92 rfl)) (Or.inr (wd hw 98 rfl)) (by decide) (t := (.object "java/lang/String")) (t' := (.object "java/lang/String")) (by decide) (by decide)))).other R8 (Or.inr (slot_ne (Or.inr (wd hw 92 rfl)) (Or.inr (wd hw 100 rfl)) (by decide) (t := (.object "java/lang/String")) (t' := (.object "java/lang/String")) (by decide) (by decide)))).other R9 (Or.inr (slot_ne (Or.inr (wd hw 92 rfl)) (Or.inr (wd hw 102 rfl)) (by decide) (t := (.object "java/lang/String")) (t' := (.object "java/lang/String")) (by decide) (by decide)))).other R10 (Or.inr (slot_ne (Or.inr (wd hw 92 rfl)) (Or.inr (wd hw 104 rfl)) (by decide) (t := (.object "java/lang/String")) (t' := (.object "java/lang/String")) (by decide) (by decide)))), (((((F5.other R6 (Or.inr (slot_ne (Or.inr (wd hw 94 rfl)) (Or.inr (wd hw 96 rfl)) (by decide) (t := .boolean) (t' := (.object "java/util/List")) (by decide) (by decide)))).other R7 (Or.inr (slot_ne (Or.inr (wd hw 94 rfl)) (Or.inr (wd hw 98 rfl)) (by decide) (t := .boolean) (t' := (.object "java/lang/String")) (by decide) (by decide)))).other R8 (Or.inr (slot_ne (Or.inr (wd hw 94 rfl)) (Or.inr (wd hw 100 rfl)) (by decide) (t := .boolean) (t' := (.object "java/lang/String")) (by decide) (by decide)))).other R9 (Or.inr (slot_ne (Or.inr (wd hw 94 rfl)) (Or.inr (wd hw 102 rfl)) (by decide) (t := .boolean) (t' := (.object "java/lang/String")) (by decide) (by decide)))).other R10 (Or.inr (slot_ne (Or.inr (wd hw 94 rfl)) (Or.inr (wd hw 104 rfl)) (by decide) (t := .boolean) (t' := (.object "java/lang/String")) (by decide) (by decide)))), ((((F6.other R7 (Or.inr (slot_ne (Or.inr (wd hw 96 rfl)) (Or.inr (wd hw 98 rfl)) (by decide) (t := (.object "java/util/List")) (t' := (.object "java/lang/String")) (by decide) (by decide)))).other R8 (Or.inr (slot_ne (Or.inr (wd hw 96 rfl)) (Or.inr (wd hw 100 rfl)) (by decide) (t := (.object "java/util/List")) (t' := (.object "java/lang/String")) (by decide) (by decide)))).other R9 (Or.inr (slot_ne (Or.inr (wd hw 96 rfl)) (Or.inr (wd hw 102 rfl)) (by decide) (t := (.object "java/util/List")) (t' := (.object "java/lang/String")) (by decide) (by decide)))).other R10 (Or.inr (slot_ne (Or.inr (wd hw 96 rfl)) (Or.inr (wd hw 104 rfl)) (by decide) (t := (.object "java/util/List")) (t' := (.object "java/lang/String")) (by decide) (by decide)))), (((F7.other R8 (Or.inr (slot_ne (Or.inr (wd hw 98 rfl)) (Or.inr (wd hw 100 rfl)) (by decide) (t := (.object "java/lang/String")) (t' := (.object "java/lang/String")) (by decide) (by decide)))).other R9 (Or.inr (slot_ne (Or.inr (wd hw 98 rfl)) (Or.inr (wd hw 102 rfl)) (by decide) (t := (.object "java/lang/String")) (t' := (.object "java/lang/String")) (by decide) (by decide)))).other R10 (Or.inr (slot_ne (Or.inr (wd hw 98 rfl)) (Or.inr (wd hw 104 rfl)) (by decide) (t := (.object "java/lang/String")) (t' := (.object "java/lang/String")) (by decide) (by decide)))), ((F8.other R9 (Or.inr (slot_ne (Or.inr (wd hw 100 rfl)) (Or.inr (wd hw 102 rfl)) (by decide) (t := (.object "java/lang/String")) (t' := (.object "java/lang/String")) (by decide) (by decide)))).other R10 (Or.inr (slot_ne (Or.inr (wd hw 100 rfl)) (Or.inr (wd hw 104 rfl)) (by decide) (t := (.object "java/lang/String")) (t' := (.object "java/lang/String")) (by decide) (by decide)))), (F9.other R10 (Or.inr (slot_ne (Or.inr (wd hw 102 rfl)) (Or.inr (wd hw 104 rfl)) (by decide) (t := (.object "java/lang/String")) (t' := (.object "java/lang/String")) (by decide) (by decide)))), F10⟩
def QIdf (Z : State) (a : Addr) (xi : Value) (xv : Value) (h0 : Heap) : Option Value → Heap → Prop := fun v h => v = some (.int (if xi = .null then (0 : Int32) else if xv = .null then (0 : Int32) else (1 : Int32)))
set_option maxRecDepth 65536 in
set_option maxHeartbeats 40000000 in
theorem rmIdf (l : Launch) (Z : State) (a0 : Array Value) (hw : ∀ d ∈ tables_1, d.before a0 Z = true) (a : Addr) (xi : Value) (xv : Value) (h0 : Heap) (O : Ext Z.heap h0) (Ea : Exa Z h0 a "com/example/sitemark/sitemark/SiteMap$Feature") (Fi : Fld Z h0 a "com/example/sitemark/sitemark/SiteMap$Feature" "id" "Ljava/lang/String;" xi) (Fv : Fld Z h0 a "com/example/sitemark/sitemark/SiteMap$Feature" "version" "Ljava/lang/String;" xv) (hxi : xi.isRef = true) (hxv : xv.isRef = true) :
    CN [] l Z (⟨"com/example/sitemark/sitemark/SiteMap$Feature", "identified", "()Z"⟩ : MethodName) prog_46_method_2_code 1 (Option.some Jvm.ClassFile.FieldType.boolean) ({ frames := 0, cells := 0, slots := 0, locals := 0 } : Room) #[(.ref a)] h0 [] (QIdf Z a xi xv h0) := by
  refine CN.of_walk (plainFor_of_name pn7) O (fun _ q => nomatch q) ?_
  intro p e s m below meth c T0 W0 hx hby hml hoZ hnm hret hlk
  have H0 := W0.here; have hz0 := W0.zsize
  refine Goes.cast (ef4 m a) ?_
  refine G.aloadN H0 hx 1 (hb hby d17_0) rfl rfl rfl ?_
  refine Wk.getF W0 hx hoZ (host := "") (Or.inl (wd hw 89 rfl)) Via.refl Fi 4 (hb hby d17_1) rfl ?_
  intro T1 W1; have H1 := W1.here
  refine G.ifnullV H1 hx 18 7 hxi (hb hby d17_4) (by decide) rfl rfl (fun c4_2 => ?_) (fun c4_2 => ?_)
  ·
    refine G.iconst H1 hx 19 (0 : Int32) (hb hby d17_18) rfl rfl ?_
    exact Wk.retN W1 hx (0 : Int32) (t := .boolean) rfl (by simp) hret hlk (hb hby d17_19) (by decide) (by decide) (by unfold QIdf; simp [QIdf, c4_2])
  ·
    refine G.aloadN H1 hx 8 (hb hby d17_7) rfl rfl rfl ?_
    refine Wk.getF W1 hx hoZ (host := "") (Or.inl (wd hw 91 rfl)) Via.refl Fv 11 (hb hby d17_8) rfl ?_
    intro T3 W3; have H3 := W3.here
    refine G.ifnullV H3 hx 18 14 hxv (hb hby d17_11) (by decide) rfl rfl (fun c11_4 => ?_) (fun c11_4 => ?_)
    ·
      refine G.iconst H3 hx 19 (0 : Int32) (hb hby d17_18) rfl rfl ?_
      exact Wk.retN W3 hx (0 : Int32) (t := .boolean) rfl (by simp) hret hlk (hb hby d17_19) (by decide) (by decide) (by unfold QIdf; simp [QIdf, c4_2, c11_4])
    ·
      refine G.iconst H3 hx 15 (1 : Int32) (hb hby d17_14) rfl rfl ?_
      refine G.goto H3 hx 19 (hb hby d17_15) (by decide) rfl ?_
      exact Wk.retN W3 hx (1 : Int32) (t := .boolean) rfl (by simp) hret hlk (hb hby d17_19) (by decide) (by decide) (by unfold QIdf; simp [QIdf, c4_2, c11_4])
def Q0 (Z : State) (cz : Int32) (de : Addr) (kd : ClassId) (p0 : Int32) (p1 : Int32) (p2 : Int32) (p3 : Int32) (h0 : Heap) : Option Value → Heap → Prop := fun v h => v = some (.int 1)
set_option maxRecDepth 65536 in
set_option maxHeartbeats 40000000 in
theorem rm0 (l : Launch) (Z : State) (a0 : Array Value) (hw : ∀ d ∈ tables_1, d.before a0 Z = true) (cz : Int32) (de : Addr) (kd : ClassId) (p0 : Int32) (p1 : Int32) (p2 : Int32) (p3 : Int32) (h0 : Heap) (O : Ext Z.heap h0) (hCS : Sta Z Z.heap "java/lang/String" "COMPACT_STRINGS" "Z" (.int cz)) (hcz : ¬ cz = 0) (hDE : Sta Z Z.heap "java/util/ArrayList" "DEFAULTCAPACITY_EMPTY_ELEMENTDATA" "[Ljava/lang/Object;" (.ref de)) (hVD : Arv Z Z.heap de kd (.object "java/lang/Object") 0 [] .null) :
    CW tables_1 l Z consts_1 x code maxLocals ret room_1 #[(.int p0), (.int p1), (.int p2), (.int p3)] h0 [] (Q0 Z cz de kd p0 p1 p2 p3 h0) := by
  refine CW.of_walk (plainFor_of_name pn6) O (fun _ q => nomatch q) ?_
  intro p e s m below meth c T0 W0 hsf hx hby hml hoZ hnm hret hlk
  have H0 := W0.here; have hz0 := W0.zsize; have hEL := elw hw
  refine Goes.cast (ef11 m p0 p1 p2 p3) ?_
  refine G.iloadN H0 hx 1 (hb hby at_0) rfl rfl ?_
  refine Wk.callSW W0 hx hoZ (y := (⟨"com/example/sitemark/sitemark/FeatureIdentifiedPinLaw", "str", "(I)Ljava/lang/String;"⟩ : MethodName)) (wd hw 0 rfl) (wd hw 1 rfl) (wd hw 2 rfl) (wd hw 3 rfl) (by decide) (Wd := 0) (CW.back (rmMk l Z a0 hw cz p0 h0 W0.old hCS hcz) W0.warm (wd hw 3 rfl) (wd hw 2 rfl) (by decide) (by decide) hEL W0.ch (fun _ q => nomatch q) (fun _ q => nomatch q)) (by rw [hml]; rfl) [(.int p0)] [] (lenOf pd11 rfl) rfl rfl (Nat.le_of_eq rfl) 4 (hb hby at_1) rfl (by decide) (by decide) (fun _ q => nomatch q) ?_
  intro v1 vm1 T1 h1 W1 K1 C1 Q1
  have H1 := W1.here; have z1 := K1.1
  obtain ⟨r1, rfl, hr1, O1, nl1, ln1⟩ := Q1
  show Goes p e below (PostW s Z consts_1 h0 [] (Q0 Z cz de kd p0 p1 p2 p3 h0) room_1.cells room_1.slots) (T1.setTop (mkF m 4 #[.val (.int p0), .val (.int p1), .val (.int p2), .val (.int p3), .unset, .unset, .unset, .unset, .unset, .unset, .unset, .unset, .unset, .unset, .unset] [r1]))
  refine G.astore H1 hx 6 #[.val (.int p0), .val (.int p1), .val (.int p2), .val (.int p3), .val r1, .unset, .unset, .unset, .unset, .unset, .unset, .unset, .unset, .unset, .unset] (hb hby at_4) hr1 (XS.store1 rfl (Or.inl rfl) (cat_ref hr1)) rfl ?_
  refine G.iloadN H1 hx 7 (hb hby at_6) rfl rfl ?_
  refine Wk.callSW W1 hx hoZ (y := (⟨"com/example/sitemark/sitemark/FeatureIdentifiedPinLaw", "str", "(I)Ljava/lang/String;"⟩ : MethodName)) (wd hw 0 rfl) (wd hw 1 rfl) (wd hw 2 rfl) (wd hw 3 rfl) (by decide) (Wd := 0) (CW.back (rmMk l Z a0 hw cz p1 h1 W1.old hCS hcz) W1.warm (wd hw 3 rfl) (wd hw 2 rfl) (by decide) (by decide) hEL W1.ch (fun _ q => nomatch q) (fun _ q => nomatch q)) (by rw [hml]; rfl) [(.int p1)] [] (lenOf pd11 rfl) rfl rfl (Nat.le_of_eq rfl) 10 (hb hby at_7) rfl (by decide) (by decide) (fun _ q => nomatch q) ?_
  intro v2 vm2 T2 h2 W2 K2 C2 Q2
  have H2 := W2.here; have z2 := K2.1
  obtain ⟨r2, rfl, hr2, O2, nl2, ln2⟩ := Q2
  show Goes p e below (PostW s Z consts_1 h0 [] (Q0 Z cz de kd p0 p1 p2 p3 h0) room_1.cells room_1.slots) (T2.setTop (mkF m 10 #[.val (.int p0), .val (.int p1), .val (.int p2), .val (.int p3), .val r1, .unset, .unset, .unset, .unset, .unset, .unset, .unset, .unset, .unset, .unset] [r2]))
  refine G.astore H2 hx 12 #[.val (.int p0), .val (.int p1), .val (.int p2), .val (.int p3), .val r1, .val r2, .unset, .unset, .unset, .unset, .unset, .unset, .unset, .unset, .unset] (hb hby at_10) hr2 (XS.store1 rfl (Or.inl rfl) (cat_ref hr2)) rfl ?_
  refine G.iloadN H2 hx 13 (hb hby at_12) rfl rfl ?_
  refine Wk.callSW W2 hx hoZ (y := (⟨"com/example/sitemark/sitemark/FeatureIdentifiedPinLaw", "str", "(I)Ljava/lang/String;"⟩ : MethodName)) (wd hw 0 rfl) (wd hw 1 rfl) (wd hw 2 rfl) (wd hw 3 rfl) (by decide) (Wd := 0) (CW.back (rmMk l Z a0 hw cz p2 h2 W2.old hCS hcz) W2.warm (wd hw 3 rfl) (wd hw 2 rfl) (by decide) (by decide) hEL W2.ch (fun _ q => nomatch q) (fun _ q => nomatch q)) (by rw [hml]; rfl) [(.int p2)] [] (lenOf pd11 rfl) rfl rfl (Nat.le_of_eq rfl) 16 (hb hby at_13) rfl (by decide) (by decide) (fun _ q => nomatch q) ?_
  intro v3 vm3 T3 h3 W3 K3 C3 Q3
  have H3 := W3.here; have z3 := K3.1
  obtain ⟨r3, rfl, hr3, O3, nl3, ln3⟩ := Q3
  show Goes p e below (PostW s Z consts_1 h0 [] (Q0 Z cz de kd p0 p1 p2 p3 h0) room_1.cells room_1.slots) (T3.setTop (mkF m 16 #[.val (.int p0), .val (.int p1), .val (.int p2), .val (.int p3), .val r1, .val r2, .unset, .unset, .unset, .unset, .unset, .unset, .unset, .unset, .unset] [r3]))
  refine G.astore H3 hx 18 #[.val (.int p0), .val (.int p1), .val (.int p2), .val (.int p3), .val r1, .val r2, .val r3, .unset, .unset, .unset, .unset, .unset, .unset, .unset, .unset] (hb hby at_16) hr3 (XS.store1 rfl (Or.inl rfl) (cat_ref hr3)) rfl ?_
  refine G.iloadN H3 hx 19 (hb hby at_18) rfl rfl ?_
  refine G.bipush H3 hx 21 (18 : Int32) (hb hby at_19) rfl rfl ?_
  refine G.iushr H3 hx 22 (hb hby at_21) rfl ?_
  refine Wk.callSW W3 hx hoZ (y := (⟨"com/example/sitemark/sitemark/FeatureIdentifiedPinLaw", "str", "(I)Ljava/lang/String;"⟩ : MethodName)) (wd hw 0 rfl) (wd hw 1 rfl) (wd hw 2 rfl) (wd hw 3 rfl) (by decide) (Wd := 0) (CW.back (rmMk l Z a0 hw cz (XT.ushr p2 (18 : Int32)) h3 W3.old hCS hcz) W3.warm (wd hw 3 rfl) (wd hw 2 rfl) (by decide) (by decide) hEL W3.ch (fun _ q => nomatch q) (fun _ q => nomatch q)) (by rw [hml]; rfl) [(.int (XT.ushr p2 (18 : Int32)))] [] (lenOf pd11 rfl) rfl rfl (Nat.le_of_eq rfl) 25 (hb hby at_22) rfl (by decide) (by decide) (fun _ q => nomatch q) ?_
  intro v4 vm4 T4 h4 W4 K4 C4 Q4
  have H4 := W4.here; have z4 := K4.1
  obtain ⟨r4, rfl, hr4, O4, nl4, ln4⟩ := Q4
  show Goes p e below (PostW s Z consts_1 h0 [] (Q0 Z cz de kd p0 p1 p2 p3 h0) room_1.cells room_1.slots) (T4.setTop (mkF m 25 #[.val (.int p0), .val (.int p1), .val (.int p2), .val (.int p3), .val r1, .val r2, .val r3, .unset, .unset, .unset, .unset, .unset, .unset, .unset, .unset] [r4]))
  refine G.astore H4 hx 27 #[.val (.int p0), .val (.int p1), .val (.int p2), .val (.int p3), .val r1, .val r2, .val r3, .val r4, .unset, .unset, .unset, .unset, .unset, .unset, .unset] (hb hby at_25) hr4 (XS.store1 rfl (Or.inl rfl) (cat_ref hr4)) rfl ?_
  refine G.iloadN H4 hx 28 (hb hby at_27) rfl rfl ?_
  refine Wk.callSW W4 hx hoZ (y := (⟨"com/example/sitemark/sitemark/FeatureIdentifiedPinLaw", "str", "(I)Ljava/lang/String;"⟩ : MethodName)) (wd hw 0 rfl) (wd hw 1 rfl) (wd hw 2 rfl) (wd hw 3 rfl) (by decide) (Wd := 0) (CW.back (rmMk l Z a0 hw cz p3 h4 W4.old hCS hcz) W4.warm (wd hw 3 rfl) (wd hw 2 rfl) (by decide) (by decide) hEL W4.ch (fun _ q => nomatch q) (fun _ q => nomatch q)) (by rw [hml]; rfl) [(.int p3)] [] (lenOf pd11 rfl) rfl rfl (Nat.le_of_eq rfl) 31 (hb hby at_28) rfl (by decide) (by decide) (fun _ q => nomatch q) ?_
  intro v5 vm5 T5 h5 W5 K5 C5 Q5
  have H5 := W5.here; have z5 := K5.1
  obtain ⟨r5, rfl, hr5, O5, nl5, ln5⟩ := Q5
  show Goes p e below (PostW s Z consts_1 h0 [] (Q0 Z cz de kd p0 p1 p2 p3 h0) room_1.cells room_1.slots) (T5.setTop (mkF m 31 #[.val (.int p0), .val (.int p1), .val (.int p2), .val (.int p3), .val r1, .val r2, .val r3, .val r4, .unset, .unset, .unset, .unset, .unset, .unset, .unset] [r5]))
  refine G.astore H5 hx 33 #[.val (.int p0), .val (.int p1), .val (.int p2), .val (.int p3), .val r1, .val r2, .val r3, .val r4, .val r5, .unset, .unset, .unset, .unset, .unset, .unset] (hb hby at_31) hr5 (XS.store1 rfl (Or.inl rfl) (cat_ref hr5)) rfl ?_
  refine G.iloadN H5 hx 34 (hb hby at_33) rfl rfl ?_
  refine G.bipush H5 hx 36 (18 : Int32) (hb hby at_34) rfl rfl ?_
  refine G.iushr H5 hx 37 (hb hby at_36) rfl ?_
  refine Wk.callSW W5 hx hoZ (y := (⟨"com/example/sitemark/sitemark/FeatureIdentifiedPinLaw", "str", "(I)Ljava/lang/String;"⟩ : MethodName)) (wd hw 0 rfl) (wd hw 1 rfl) (wd hw 2 rfl) (wd hw 3 rfl) (by decide) (Wd := 0) (CW.back (rmMk l Z a0 hw cz (XT.ushr p3 (18 : Int32)) h5 W5.old hCS hcz) W5.warm (wd hw 3 rfl) (wd hw 2 rfl) (by decide) (by decide) hEL W5.ch (fun _ q => nomatch q) (fun _ q => nomatch q)) (by rw [hml]; rfl) [(.int (XT.ushr p3 (18 : Int32)))] [] (lenOf pd11 rfl) rfl rfl (Nat.le_of_eq rfl) 40 (hb hby at_37) rfl (by decide) (by decide) (fun _ q => nomatch q) ?_
  intro v6 vm6 T6 h6 W6 K6 C6 Q6
  have H6 := W6.here; have z6 := K6.1
  obtain ⟨r6, rfl, hr6, O6, nl6, ln6⟩ := Q6
  show Goes p e below (PostW s Z consts_1 h0 [] (Q0 Z cz de kd p0 p1 p2 p3 h0) room_1.cells room_1.slots) (T6.setTop (mkF m 40 #[.val (.int p0), .val (.int p1), .val (.int p2), .val (.int p3), .val r1, .val r2, .val r3, .val r4, .val r5, .unset, .unset, .unset, .unset, .unset, .unset] [r6]))
  refine G.astore H6 hx 42 #[.val (.int p0), .val (.int p1), .val (.int p2), .val (.int p3), .val r1, .val r2, .val r3, .val r4, .val r5, .val r6, .unset, .unset, .unset, .unset, .unset] (hb hby at_40) hr6 (XS.store1 rfl (Or.inl rfl) (cat_ref hr6)) rfl ?_
  refine G.iloadN H6 hx 43 (hb hby at_42) rfl rfl ?_
  refine G.iloadN H6 hx 44 (hb hby at_43) rfl rfl ?_
  refine G.ixor H6 hx 45 (hb hby at_44) rfl ?_
  refine Wk.callSW W6 hx hoZ (y := (⟨"com/example/sitemark/sitemark/FeatureIdentifiedPinLaw", "str", "(I)Ljava/lang/String;"⟩ : MethodName)) (wd hw 0 rfl) (wd hw 1 rfl) (wd hw 2 rfl) (wd hw 3 rfl) (by decide) (Wd := 0) (CW.back (rmMk l Z a0 hw cz (p2 ^^^ p3) h6 W6.old hCS hcz) W6.warm (wd hw 3 rfl) (wd hw 2 rfl) (by decide) (by decide) hEL W6.ch (fun _ q => nomatch q) (fun _ q => nomatch q)) (by rw [hml]; rfl) [(.int (p2 ^^^ p3))] [] (lenOf pd11 rfl) rfl rfl (Nat.le_of_eq rfl) 48 (hb hby at_45) rfl (by decide) (by decide) (fun _ q => nomatch q) ?_
  intro v7 vm7 T7 h7 W7 K7 C7 Q7
  have H7 := W7.here; have z7 := K7.1
  obtain ⟨r7, rfl, hr7, O7, nl7, ln7⟩ := Q7
  show Goes p e below (PostW s Z consts_1 h0 [] (Q0 Z cz de kd p0 p1 p2 p3 h0) room_1.cells room_1.slots) (T7.setTop (mkF m 48 #[.val (.int p0), .val (.int p1), .val (.int p2), .val (.int p3), .val r1, .val r2, .val r3, .val r4, .val r5, .val r6, .unset, .unset, .unset, .unset, .unset] [r7]))
  refine G.astore H7 hx 50 #[.val (.int p0), .val (.int p1), .val (.int p2), .val (.int p3), .val r1, .val r2, .val r3, .val r4, .val r5, .val r6, .val r7, .unset, .unset, .unset, .unset] (hb hby at_48) hr7 (XS.store1 rfl (Or.inl rfl) (cat_ref hr7)) rfl ?_
  refine G.iloadN H7 hx 51 (hb hby at_50) rfl rfl ?_
  refine G.bipush H7 hx 53 (30 : Int32) (hb hby at_51) rfl rfl ?_
  refine G.iushr H7 hx 54 (hb hby at_53) rfl ?_
  refine G.iconst H7 hx 55 (1 : Int32) (hb hby at_54) rfl rfl ?_
  refine G.iand H7 hx 56 (hb hby at_55) rfl ?_
  have J64_9 : ∀ (b8 : Int32) (hb8 : b8 = (if ((XT.ushr p3 (30 : Int32)) &&& (1 : Int32)) = 0 then (0 : Int32) else (1 : Int32))), Goes p e below (PostW s Z consts_1 h0 [] (Q0 Z cz de kd p0 p1 p2 p3 h0) room_1.cells room_1.slots) (T7.setTop (mkF m 64 #[.val (.int p0), .val (.int p1), .val (.int p2), .val (.int p3), .val r1, .val r2, .val r3, .val r4, .val r5, .val r6, .val r7, .unset, .unset, .unset, .unset] [(.int b8)])) := by
    intro b8 hb8
    refine G.istoreX H7 hx 66 #[.val (.int p0), .val (.int p1), .val (.int p2), .val (.int p3), .val r1, .val r2, .val r3, .val r4, .val r5, .val r6, .val r7, .val (.int b8), .unset, .unset, .unset] (hb hby at_64) rfl rfl ?_
    refine Wk.newO W7 hx hoZ (wd hw 51 rfl) (wd hw 52 rfl) (wd hw 53 rfl) 69 (hb hby at_66) rfl (by decide) (by decide) ?_
    intro T10 h10 a10 W10 E10 g10 A10 D10 S10
    have H10 := W10.here; have z10 := E10.1; have gu10 := Nat.le_of_eq g10; have gt10 := Nat.le_of_eq g10.symm; have l10 := ltN A10.lt
    refine G.dup H10 hx 70 (hb hby at_69) rfl rfl ?_
    refine Wk.special W10 hx hoZ (y := (⟨"java/util/ArrayList", "<init>", "()V"⟩ : MethodName)) rfl (wd hw 54 rfl) (wd hw 55 rfl) (wd hw 56 rfl) (by decide) (Wd := 1) (CN.back (rmArI l Z a0 hw de kd a10 h10 W10.old hDE hVD (by omega) A10 (D10 (Or.inl (wd hw 71 rfl)) (ty := .int) (by decide)) (D10 (Or.inl (wd hw 74 rfl)) (ty := (.array (.object "java/lang/Object"))) (by decide)) (D10 (Or.inl (wd hw 122 rfl)) (ty := .int) (by decide))) W10.warm (wd hw 56 rfl) (wd hw 53 rfl) (by decide) (by decide)) a10 (by rw [hml]; rfl) [] [(.ref a10)] (lenOf pd4 rfl) rfl rfl (Nat.le_of_eq rfl) 73 (hb hby at_70) rfl (by decide) (by decide) (hws1 (Or.inr (by omega)) S10) ?_
    intro v11 T11 h11 W11 K11 C11 Q11
    have H11 := W11.here; have z11 := K11.1
    obtain ⟨rfl, X11, F11m, F11e, F11s⟩ := Q11
    show Goes p e below (PostW s Z consts_1 h0 [] (Q0 Z cz de kd p0 p1 p2 p3 h0) room_1.cells room_1.slots) (T11.setTop (mkF m 73 #[.val (.int p0), .val (.int p1), .val (.int p2), .val (.int p3), .val r1, .val r2, .val r3, .val r4, .val r5, .val r6, .val r7, .val (.int b8), .unset, .unset, .unset] [(.ref a10)]))
    refine G.astore H11 hx 75 #[.val (.int p0), .val (.int p1), .val (.int p2), .val (.int p3), .val r1, .val r2, .val r3, .val r4, .val r5, .val r6, .val r7, .val (.int b8), .val (.ref a10), .unset, .unset] (hb hby at_73) rfl rfl rfl ?_
    refine G.iloadN H11 hx 76 (hb hby at_75) rfl rfl ?_
    refine G.bipush H11 hx 78 (30 : Int32) (hb hby at_76) rfl rfl ?_
    refine G.iushr H11 hx 79 (hb hby at_78) rfl ?_
    refine G.iconst H11 hx 80 (1 : Int32) (hb hby at_79) rfl rfl ?_
    refine G.iand H11 hx 81 (hb hby at_80) rfl ?_
    have J98_12 : ∀ (vm12 : Vm) (T12 : State) (h12 : Heap), Wk p l e room_1 s m #[(.int p0), (.int p1), (.int p2), (.int p3)] below meth c Z consts_1 h0 [] vm12 T12 h12 50 109 → Goes p e below (PostW s Z consts_1 h0 [] (Q0 Z cz de kd p0 p1 p2 p3 h0) room_1.cells room_1.slots) (T12.setTop (mkF m 98 #[.val (.int p0), .val (.int p1), .val (.int p2), .val (.int p3), .val r1, .val r2, .val r3, .val r4, .val r5, .val r6, .val r7, .val (.int b8), .val (.ref a10), .unset, .unset] [])) := by
      intro vm12 T12 h12 W12
      have H12 := W12.here; have z12 := W12.size
      refine Wk.newO W12 hx hoZ (wd hw 75 rfl) (wd hw 76 rfl) (wd hw 77 rfl) 101 (hb hby at_98) rfl (by decide) (by decide) ?_
      intro T16 h16 a16 W16 E16 g16 A16 D16 S16
      have H16 := W16.here; have z16 := E16.1; have gu16 := Nat.le_of_eq g16; have gt16 := Nat.le_of_eq g16.symm; have l16 := ltN A16.lt
      refine G.dup H16 hx 102 (hb hby at_101) rfl rfl ?_
      refine G.aload H16 hx 104 (hb hby at_102) rfl hr3 rfl ?_
      refine G.aload H16 hx 106 (hb hby at_104) rfl hr1 rfl ?_
      refine G.aload H16 hx 108 (hb hby at_106) rfl hr2 rfl ?_
      refine G.iload H16 hx 110 (hb hby at_108) rfl rfl ?_
      refine G.aload H16 hx 112 (hb hby at_110) rfl rfl rfl ?_
      refine G.aload H16 hx 114 (hb hby at_112) rfl hr4 rfl ?_
      refine G.aload H16 hx 116 (hb hby at_114) rfl hr5 rfl ?_
      refine G.aload H16 hx 118 (hb hby at_116) rfl hr6 rfl ?_
      refine G.aload H16 hx 120 (hb hby at_118) rfl hr7 rfl ?_
      refine Wk.special W16 hx hoZ (y := (⟨"com/example/sitemark/sitemark/SiteMap$Feature", "<init>", "(Ljava/lang/String;Ljava/lang/String;Ljava/lang/String;ZLjava/util/List;Ljava/lang/String;Ljava/lang/String;Ljava/lang/String;Ljava/lang/String;)V"⟩ : MethodName)) rfl (wd hw 78 rfl) (wd hw 79 rfl) (wd hw 80 rfl) (by decide) (Wd := 1) (CN.back (rmFin_ l Z a0 hw a16 r3 r1 r2 b8 (.ref a10) r4 r5 r6 r7 h16 W16.old (by omega) A16 hr3 hr1 hr2 (own_b hb8) rfl hr4 hr5 hr6 hr7 (D16 (Or.inr (wd hw 88 rfl)) (ty := (.object "java/lang/String")) (by decide)) (D16 (Or.inr (wd hw 90 rfl)) (ty := (.object "java/lang/String")) (by decide)) (D16 (Or.inr (wd hw 92 rfl)) (ty := (.object "java/lang/String")) (by decide)) (D16 (Or.inr (wd hw 94 rfl)) (ty := .boolean) (by decide)) (D16 (Or.inr (wd hw 96 rfl)) (ty := (.object "java/util/List")) (by decide)) (D16 (Or.inr (wd hw 98 rfl)) (ty := (.object "java/lang/String")) (by decide)) (D16 (Or.inr (wd hw 100 rfl)) (ty := (.object "java/lang/String")) (by decide)) (D16 (Or.inr (wd hw 102 rfl)) (ty := (.object "java/lang/String")) (by decide)) (D16 (Or.inr (wd hw 104 rfl)) (ty := (.object "java/lang/String")) (by decide))) W16.warm (wd hw 80 rfl) (wd hw 77 rfl) (by decide) (by decide)) a16 (by rw [hml]; rfl) [r3, r1, r2, (.int b8), (.ref a10), r4, r5, r6, r7] [(.ref a16)] (lenOf pd13 rfl) rfl rfl (Nat.le_of_eq rfl) 123 (hb hby at_120) rfl (by decide) (by decide) (hws1 (Or.inr (by omega)) S16) ?_
      intro v17 T17 h17 W17 K17 C17 Q17
      have H17 := W17.here; have z17 := K17.1
      obtain ⟨rfl, X17, F17_url, F17_id, F17_version, F17_patch, F17_categories, F17_os, F17_ws, F17_arch, F17_nl⟩ := Q17
      show Goes p e below (PostW s Z consts_1 h0 [] (Q0 Z cz de kd p0 p1 p2 p3 h0) room_1.cells room_1.slots) (T17.setTop (mkF m 123 #[.val (.int p0), .val (.int p1), .val (.int p2), .val (.int p3), .val r1, .val r2, .val r3, .val r4, .val r5, .val r6, .val r7, .val (.int b8), .val (.ref a10), .unset, .unset] [(.ref a16)]))
      refine G.astore H17 hx 125 #[.val (.int p0), .val (.int p1), .val (.int p2), .val (.int p3), .val r1, .val r2, .val r3, .val r4, .val r5, .val r6, .val r7, .val (.int b8), .val (.ref a10), .val (.ref a16), .unset] (hb hby at_123) rfl rfl rfl ?_
      refine G.iloadN H17 hx 126 (hb hby at_125) rfl rfl ?_
      refine G.iconst H17 hx 127 (3 : Int32) (hb hby at_126) rfl rfl ?_
      refine G.iand H17 hx 128 (hb hby at_127) rfl ?_
      have J142_19 : ∀ (b18 : Int32) (hb18 : b18 = (if (p0 &&& (3 : Int32)) = 0 then (0 : Int32) else (if (p1 &&& (3 : Int32)) = 0 then (0 : Int32) else (1 : Int32)))), Goes p e below (PostW s Z consts_1 h0 [] (Q0 Z cz de kd p0 p1 p2 p3 h0) room_1.cells room_1.slots) (T17.setTop (mkF m 142 #[.val (.int p0), .val (.int p1), .val (.int p2), .val (.int p3), .val r1, .val r2, .val r3, .val r4, .val r5, .val r6, .val r7, .val (.int b8), .val (.ref a10), .val (.ref a16), .unset] [(.int b18)])) := by
        intro b18 hb18
        refine G.istoreX H17 hx 144 #[.val (.int p0), .val (.int p1), .val (.int p2), .val (.int p3), .val r1, .val r2, .val r3, .val r4, .val r5, .val r6, .val r7, .val (.int b8), .val (.ref a10), .val (.ref a16), .val (.int b18)] (hb hby at_142) rfl rfl ?_
        refine G.aload H17 hx 146 (hb hby at_144) rfl rfl rfl ?_
        refine Wk.virtual W17 hx hoZ (y := (⟨"com/example/sitemark/sitemark/SiteMap$Feature", "identified", "()Z"⟩ : MethodName)) (z := (⟨"com/example/sitemark/sitemark/SiteMap$Feature", "identified", "()Z"⟩ : MethodName)) (wd hw 105 rfl) (wd hw 106 rfl) (wd hw 108 rfl) (wd hw 107 rfl) (W17.nf (wd hw 108 rfl)) (by decide) (Wd := 0) (CN.back (rmIdf l Z a0 hw a16 r1 r2 h17 W17.old X17 F17_id F17_version hr1 hr2) W17.warm (wd hw 109 rfl) (wd hw 77 rfl) (by decide) (by decide)) X17 (by rw [hml]; rfl) [] [] (lenOf pd14 rfl) rfl rfl (Nat.le_of_eq rfl) 149 (hb hby at_146) rfl (by decide) (by decide) (fun _ q => nomatch q) ?_
        intro v20 T20 h20 W20 K20 C20 Q20
        have H20 := W20.here; have z20 := K20.1
        obtain rfl : _ = _ := Q20
        show Goes p e below (PostW s Z consts_1 h0 [] (Q0 Z cz de kd p0 p1 p2 p3 h0) room_1.cells room_1.slots) (T20.setTop (mkF m 149 #[.val (.int p0), .val (.int p1), .val (.int p2), .val (.int p3), .val r1, .val r2, .val r3, .val r4, .val r5, .val r6, .val r7, .val (.int b8), .val (.ref a10), .val (.ref a16), .val (.int b18)] [(.int (if r1 = .null then (0 : Int32) else if r2 = .null then (0 : Int32) else (1 : Int32)))]))
        refine G.iload H20 hx 151 (hb hby at_149) rfl rfl ?_
        have J159_22 : ∀ (b21 : Int32) (hb21 : b21 = (if (if r1 = .null then (0 : Int32) else if r2 = .null then (0 : Int32) else (1 : Int32)) = b18 then (1 : Int32) else (0 : Int32))), Goes p e below (PostW s Z consts_1 h0 [] (Q0 Z cz de kd p0 p1 p2 p3 h0) room_1.cells room_1.slots) (T20.setTop (mkF m 159 #[.val (.int p0), .val (.int p1), .val (.int p2), .val (.int p3), .val r1, .val r2, .val r3, .val r4, .val r5, .val r6, .val r7, .val (.int b8), .val (.ref a10), .val (.ref a16), .val (.int b18)] [(.int b21)])) := by
          intro b21 hb21
          exact Wk.retNW W20 hx hEL b21 (t := .boolean) (by rw [hb21]; repeat' (first | rfl | split)) (by simp) hret hlk (hb hby at_159) (by decide) (by decide) (own_end hb21 hb18 nl1 ln1 nl2 ln2)
        by_cases c151_23 : (if r1 = .null then (0 : Int32) else if r2 = .null then (0 : Int32) else (1 : Int32)) = b18
        ·
          refine G.icmpN H20 hx 154 (hb hby at_151) (teq c151_23).2 rfl ?_
          refine G.iconst H20 hx 155 (1 : Int32) (hb hby at_154) rfl rfl ?_
          refine G.goto H20 hx 159 (hb hby at_155) (by decide) rfl ?_
          exact J159_22 _ (by simp only [if_pos c151_23])
        ·
          refine G.icmpY H20 hx 158 (hb hby at_151) (feq c151_23).2 (by decide) rfl ?_
          refine G.iconst H20 hx 159 (0 : Int32) (hb hby at_158) rfl rfl ?_
          exact J159_22 _ (by simp only [if_neg c151_23])
      by_cases c128_24 : (p0 &&& (3 : Int32)) = 0
      ·
        refine G.ifY H17 hx 141 (hb hby at_128) (zeq c128_24).1 (by decide) rfl ?_
        refine G.iconst H17 hx 142 (0 : Int32) (hb hby at_141) rfl rfl ?_
        exact J142_19 _ (by simp only [if_pos c128_24])
      ·
        refine G.ifN H17 hx 131 (hb hby at_128) (zne c128_24).1 rfl ?_
        refine G.iloadN H17 hx 132 (hb hby at_131) rfl rfl ?_
        refine G.iconst H17 hx 133 (3 : Int32) (hb hby at_132) rfl rfl ?_
        refine G.iand H17 hx 134 (hb hby at_133) rfl ?_
        by_cases c134_25 : (p1 &&& (3 : Int32)) = 0
        ·
          refine G.ifY H17 hx 141 (hb hby at_134) (zeq c134_25).1 (by decide) rfl ?_
          refine G.iconst H17 hx 142 (0 : Int32) (hb hby at_141) rfl rfl ?_
          exact J142_19 _ (by simp only [if_neg c128_24, if_pos c134_25])
        ·
          refine G.ifN H17 hx 137 (hb hby at_134) (zne c134_25).1 rfl ?_
          refine G.iconst H17 hx 138 (1 : Int32) (hb hby at_137) rfl rfl ?_
          refine G.goto H17 hx 142 (hb hby at_138) (by decide) rfl ?_
          exact J142_19 _ (by simp only [if_neg c128_24, if_neg c134_25])
    by_cases c81_13 : ((XT.ushr p2 (30 : Int32)) &&& (1 : Int32)) = 0
    ·
      refine G.ifY H11 hx 98 (hb hby at_81) (zeq c81_13).1 (by decide) rfl ?_
      exact J98_12 vm7 T11 h11 (W11.mono (by decide) (by decide))
    ·
      refine G.ifN H11 hx 84 (hb hby at_81) (zne c81_13).1 rfl ?_
      refine G.aload H11 hx 86 (hb hby at_84) rfl rfl rfl ?_
      refine G.iloadN H11 hx 87 (hb hby at_86) rfl rfl ?_
      refine G.iloadN H11 hx 88 (hb hby at_87) rfl rfl ?_
      refine G.ixor H11 hx 89 (hb hby at_88) rfl ?_
      refine Wk.callSW W11 hx hoZ (y := (⟨"com/example/sitemark/sitemark/FeatureIdentifiedPinLaw", "str", "(I)Ljava/lang/String;"⟩ : MethodName)) (wd hw 0 rfl) (wd hw 1 rfl) (wd hw 2 rfl) (wd hw 3 rfl) (by decide) (Wd := 1) (CW.back (rmMk l Z a0 hw cz (p0 ^^^ p1) h11 W11.old hCS hcz) W11.warm (wd hw 3 rfl) (wd hw 2 rfl) (by decide) (by decide) hEL W11.ch (fun _ q => nomatch q) (fun _ q => nomatch q)) (by rw [hml]; rfl) [(.int (p0 ^^^ p1))] [(.ref a10)] (lenOf pd11 rfl) rfl rfl (Nat.le_of_eq rfl) 92 (hb hby at_89) rfl (by decide) (by decide) (fun _ q => nomatch q) ?_
      intro v14 vm14 T14 h14 W14 K14 C14 Q14
      have H14 := W14.here; have z14 := K14.1
      obtain ⟨r14, rfl, hr14, O14, nl14, ln14⟩ := Q14
      show Goes p e below (PostW s Z consts_1 h0 [] (Q0 Z cz de kd p0 p1 p2 p3 h0) room_1.cells room_1.slots) (T14.setTop (mkF m 92 #[.val (.int p0), .val (.int p1), .val (.int p2), .val (.int p3), .val r1, .val r2, .val r3, .val r4, .val r5, .val r6, .val r7, .val (.int b8), .val (.ref a10), .unset, .unset] [r14, (.ref a10)]))
      refine Wk.iface W14 hx hoZ (y := (⟨"java/util/List", "add", "(Ljava/lang/Object;)Z"⟩ : MethodName)) (z := (⟨"java/util/ArrayList", "add", "(Ljava/lang/Object;)Z"⟩ : MethodName)) (wd hw 110 rfl) (wd hw 111 rfl) (wd hw 112 rfl) (wd hw 113 rfl) (wd hw 114 rfl) (wd hw 115 rfl) (wd hw 116 rfl) (wd hw 117 rfl) rfl (by decide) (Wd := 0) (CN.back (rmAdd l Z a0 hw de kd (0 : Int32) a10 r14 h14 W14.old hDE hVD (by omega) (X11.keep K14) (F11m.keep K14 nin0) (F11e.keep K14 nin0) (F11s.keep K14 nin0) hr14 O14) W14.warm (wd hw 118 rfl) (wd hw 53 rfl) (by decide) (by decide)) (X11.keep K14) (by rw [hml]; rfl) [r14] [] (lenOf pd12 rfl) rfl rfl (Nat.le_of_eq rfl) 97 (hb hby at_92) rfl (by decide) (by decide) (hws1 (Or.inr (by omega)) (C14.safe (ltA (by omega)) (C11.safe (ltA (by omega)) S10))) ?_
      intro v15 T15 h15 W15 K15 C15 Q15
      have H15 := W15.here; have z15 := K15.1
      obtain rfl : _ = _ := Q15
      show Goes p e below (PostW s Z consts_1 h0 [] (Q0 Z cz de kd p0 p1 p2 p3 h0) room_1.cells room_1.slots) (T15.setTop (mkF m 97 #[.val (.int p0), .val (.int p1), .val (.int p2), .val (.int p3), .val r1, .val r2, .val r3, .val r4, .val r5, .val r6, .val r7, .val (.int b8), .val (.ref a10), .unset, .unset] [(.int (1 : Int32))]))
      refine G.pop H15 hx 98 (hb hby at_97) rfl rfl ?_
      exact J98_12 vm14 T15 h15 (W15.mono (by decide) (by decide))
  by_cases c56_26 : ((XT.ushr p3 (30 : Int32)) &&& (1 : Int32)) = 0
  ·
    refine G.ifY H7 hx 63 (hb hby at_56) (zeq c56_26).1 (by decide) rfl ?_
    refine G.iconst H7 hx 64 (0 : Int32) (hb hby at_63) rfl rfl ?_
    exact J64_9 _ (by simp only [if_pos c56_26])
  ·
    refine G.ifN H7 hx 59 (hb hby at_56) (zne c56_26).1 rfl ?_
    refine G.iconst H7 hx 60 (1 : Int32) (hb hby at_59) rfl rfl ?_
    refine G.goto H7 hx 64 (hb hby at_60) (by decide) rfl ?_
    exact J64_9 _ (by simp only [if_neg c56_26])
set_option maxRecDepth 65536 in
set_option maxHeartbeats 40000000 in
theorem comes_1 {Post : Tables → Env → Array Value → State → Outcome → State → Prop} (hpost : ∀ tb e args s v u, (limb_1_1.after args s (.returned v) u = true ∧ limb_1_2.after args s (.returned v) u = true ∧ True) → ReturnedEndW s (.returned v) u (Jvm.fieldLocs frame_1_writes args s ++ Jvm.arrayLocs frame_1_arrays args s ++ Jvm.staticLocs frame_1_statics s) 56 1280 → Post tb e args s (.returned v) u) :
    ArmFor flags0 classFile x code maxLocals ret World_1 tables_1 room_1 Calls_1 rest_1 Pre_1 Post := by
  intro l hfl _ _ p e ha hc hk s m args below hf hA hF happ hP
  obtain ⟨hcalls, hrest, hpre⟩ := hP
  obtain ⟨-, -, -, hnamed, -, -, -, hat⟩ := (Spec.applies_iff hf).mp happ
  obtain ⟨hg, hn⟩ := and_e (Cond.before_iff.mp (show (Jvm.Cond.and given_1 narrow_1).before args s = true from hpre))
  obtain ⟨hcount, hg0⟩ := and_e hg
  obtain ⟨ha0, hg1⟩ := and_e hg0
  obtain ⟨ha1, hg2⟩ := and_e hg1
  obtain ⟨ha2, hg3⟩ := and_e hg2
  obtain ⟨w0, w1, w2, w3, rfl⟩ : ∃ w0 w1 w2 w3 : Value, args = #[w0, w1, w2, w3] := by
    have hs : args.size = 4 := by simpa [Cond.value, given_1] using hcount
    obtain ⟨L⟩ := args
    match L, hs with
    | [w0, w1, w2, w3], _ => exact ⟨w0, w1, w2, w3, rfl⟩
  have hw := fun d (hd : d ∈ tables_1) => atoms_spec (ws := Jvm.Cond.code x code maxLocals ret :: tables_1) hat d (List.mem_cons_of_mem _ hd)
  obtain ⟨hsets, hown0⟩ := atoms_of _ (rest_1_c_eq ▸ (show rest_1_c.before _ s = true from hrest))
  have n5 := not_v (Cond.before_iff.mp (hsets _ (List.mem_of_getElem? (i := 2) rfl)))
  obtain ⟨i0, ei0⟩ := is_v ha0
  obtain rfl : w0 = (.int i0) := Option.some.inj ei0
  obtain ⟨i1, ei1⟩ := is_v ha1
  obtain rfl : w1 = (.int i1) := Option.some.inj ei1
  obtain ⟨i2, ei2⟩ := is_v ha2
  obtain rfl : w2 = (.int i2) := Option.some.inj ei2
  obtain ⟨i3, ei3⟩ := is_v hg3
  obtain rfl : w3 = (.int i3) := Option.some.inj ei3
  obtain ⟨cz, ecz⟩ := is_v (Cond.before_iff.mp (hsets _ (List.mem_of_getElem? (i := 1) rfl)))
  have hCS : Sta s s.heap "java/lang/String" "COMPACT_STRINGS" "Z" (.int cz) := Sta.start ecz (Or.inl (hsets _ (List.mem_of_getElem? (i := 0) rfl)))
  obtain ⟨fm, efm, hfm⟩ := isR_v (Cond.before_iff.mp (hsets _ (List.mem_of_getElem? (i := 8) rfl)))
  have hFM : Sta s s.heap "jdk/internal/util/Preconditions" "SIOOBE_FORMATTER" "Ljava/util/function/BiFunction;" fm := Sta.start efm (Or.inl (hsets _ (List.mem_of_getElem? (i := 7) rfl)))
  have hcz : ¬ cz = (0 : Int32) := gotF (Cond.eq_ints ecz (Term.int_eval (0))) n5
  have hCH : CHv s consts_1 s.vm s.heap := CHv.start (elw hw) (fun p hp => hcalls.1 p hp) (hsets _ (List.mem_of_getElem? (i := 2) rfl)) (wsStr hw _ (by simp [Bundle.stringAtoms])) (wsStr hw _ (by simp [Bundle.stringAtoms, Bundle.sN]))
  have hfit : Fit s := fun {y c} hc i hi => by
    obtain ⟨ha, rfl⟩ := Array.getElem?_eq_some_iff.mp hc
    have q := List.all_eq_true.mp ((Array.all_eq_true_iff_forall_mem.mp hF) _ (Array.getElem_mem ha)) i (List.mem_range.mpr hi)
    simpa [Array.getElem?_eq_getElem hi] using q
  obtain ⟨de, cde, ede, ade, sde, nde⟩ := Jvm.Lib.length_spec (Jvm.Lib.String.coder.eq_spec (hsets _ (List.mem_of_getElem? (i := 17) rfl)))
  obtain ⟨c', A⟩ := Arr.start ede (Cond.before_iff.mp (hsets _ (List.mem_of_getElem? (i := 15) rfl)))
  have ec := Option.some.inj (A.1.symm.trans (Jvm.Lib.arrayAt_spec ade).1)
  rw [ec] at A
  have hDE : Sta s s.heap "java/util/ArrayList" "DEFAULTCAPACITY_EMPTY_ELEMENTDATA" "[Ljava/lang/Object;" (.ref de) := Sta.start ede (Or.inr ⟨(wd hw 53 rfl), hsets _ (List.mem_of_getElem? (i := 11) rfl)⟩)
  have hVD : Arv s s.heap de cde.cls (.object "java/lang/Object") 0 [] .null := Arv.start hfit A sde (by injection nde with q; exact q.symm) (by decide) rfl trivial
  obtain ⟨n, o, h1, h2, h3, _, L, rfl, ⟨N, -, rfl⟩, -, hq⟩ := rm0 l s _ hw cz de cde.cls i0 i1 i2 i3 s.heap (ext_refl _) hCS hcz hDE hVD p e ha hc hk s m _ below hf ((Spec.applies_iff_loose hf).mp happ).1 ⟨rfl, State.Warmed39.refl s, rfl, hCH, fun _ q => nomatch q⟩ trivial
  refine ⟨n, _, h1, h2, h3, hpost _ _ _ _ _ _ ⟨Cond.after_iff.mpr rfl, Cond.after_iff.mpr (eq_i res_at (Term.int_eval (1)) rfl), trivial⟩ ⟨hq.1, hq.2.1, hq.2.2.1, (hq.2.2.2.sift fun y hy => Or.inr (N y hy)).mono (by decide) (by decide)⟩⟩
theorem main_1_1 : Claimed_1_1 := comes_1 fun _ _ _ _ _ _ h hF => ⟨h.1, hF⟩
theorem main_1_2 : Claimed_1_2 := comes_1 fun _ _ _ _ _ _ h hF => ⟨h.2.1, hF⟩
end Jvm.Pilot.@@N@@
namespace Jvm.Pilot.@@N@@
open Jvm Jvm.ClassFile Sem Op Lib Jvm.Free Jvm.Stand Jvm.Pilot.@@N@@.Jvm.D
/-! MADE BY PROGRAM (witnessworld.py) out of the Statement's table words and the real class files: 31 classes; the members and pool entries that the words name. The judged class is class 1, her method 2. -/
namespace start1
open Jvm.ClassFile
def u (s : String) : CpInfo := .utf8 (stringToUtf16 s)
/-- a pool by its gaps: so many unusable entries, then the entry; so many at the end -/
def gap : Nat → List CpInfo → List CpInfo
  | 0, r => r
  | n + 1, r => .unusable :: gap n r
def poolList (es : List (Nat × CpInfo)) (last : Nat) : List CpInfo := es.foldr (fun e r => gap e.1 (e.2 :: r)) (gap last [])
def pool (es : List (Nat × CpInfo)) (last : Nat) : Array CpInfo := ⟨poolList es last⟩
def fileOf (pool : Array CpInfo) (this : Nat) (attrs : Array Attribute := #[]) (ms : Array MethodInfo := #[]) (fl : Nat := 33) (sup : Nat := 0) (ifs : Array Nat := #[]) (fds : Array FieldInfo := #[]) : ClassFile where
  minorVersion := 0
  majorVersion := 65
  constantPool := pool
  accessFlags := fl
  thisClass := this
  superClass := sup
  interfaces := ifs
  fields := fds
  methods := ms
  attributes := attrs
def plain (name : String) (sup : Option ClassId) : Class where
  name := name
  kind := .ordinary
  loader := none
  accessFlags := 33
  super := sup
  interfaces := #[]
  cf := none
  fields := #[]
  methods := #[]
  instanceTypes := #[]
  staticTypes := #[]
  resolved := #[]
  callSites := []
  init := .initialized
  statics := none
  mirror := none

def pool0 : Array CpInfo := pool [(5, u "<init>"), (0, u "()V"), (1, .class_ 10), (1, u "java/lang/Object")] 113

def k0c0 : Code := { maxStack := 0, maxLocals := 1, code := object_method_1_code, exceptionTable := #[], attributes := #[] }
def k0m0 : Method := { name := "<init>", desc := "()V", sig := { parameters := [], returnType := none }, accessFlags := 1, code := some k0c0 }
/-- java/lang/Object -/
def k0 : Class := { plain "java/lang/Object" none with
  accessFlags := 33
  interfaces := #[]
  cf := some (fileOf pool0 8 #[] #[{ accessFlags := 1, nameIndex := 5, descriptorIndex := 6, attributes := #[] }] 33 0 #[] #[])
  fields := #[]
  methods := #[k0m0]
  instanceTypes := #[]
  staticTypes := #[]
  resolved := Array.replicate 124 none
  statics := none }

def pool1 : Array CpInfo := pool [(2, .class_ 4), (0, .nameAndType 5 6), (0, u "java/lang/Object"), (0, u "<init>"), (0, u "()V"), (0, .class_ 8), (0, u "java/lang/String"), (0, .methodref 7 10), (0, .nameAndType 5 11), (0, u "([C)V"), (0, .methodref 7 13), (0, .nameAndType 14 15), (0, u "valueOf"), (0, u "(C)Ljava/lang/String;"), (0, .methodref 17 18), (0, .class_ 19), (0, .nameAndType 20 21), (0, u "com/example/sitemark/sitemark/FeatureIdentifiedPinLaw"), (0, u "str"), (0, u "(I)Ljava/lang/String;"), (0, .class_ 23), (0, u "java/util/ArrayList"), (0, .methodref 22 3), (0, .interfaceMethodref 26 27), (0, .class_ 28), (0, .nameAndType 29 30), (0, u "java/util/List"), (0, u "add"), (0, u "(Ljava/lang/Object;)Z"), (0, .class_ 32), (0, u "com/example/sitemark/sitemark/SiteMap$Feature"), (0, .methodref 31 34), (0, .nameAndType 5 35), (0, u "(Ljava/lang/String;Ljava/lang/String;Ljava/lang/String;ZLjava/util/List;Ljava/lang/String;Ljava/lang/String;Ljava/lang/String;Ljava/lang/String;)V"), (0, .methodref 31 37), (0, .nameAndType 38 39), (0, u "identified"), (0, u "()Z"), (3, u "law"), (0, u "(IIII)Z")] 6

def k1m0 : Method := { name := "<init>", desc := "()V", sig := { parameters := [], returnType := none }, accessFlags := 2, code := none }
def k1c1 : Code := { maxStack := 4, maxLocals := 4, code := method_2_code, exceptionTable := #[], attributes := #[] }
def k1m1 : Method := { name := "str", desc := "(I)Ljava/lang/String;", sig := { parameters := [.int], returnType := some (.object "java/lang/String") }, accessFlags := 10, code := some k1c1 }
def k1c2 : Code := { maxStack := 11, maxLocals := 15, code := code, exceptionTable := #[], attributes := #[] }
def k1m2 : Method := { name := "law", desc := "(IIII)Z", sig := { parameters := [.int, .int, .int, .int], returnType := some .boolean }, accessFlags := 9, code := some k1c2 }
/-- com/example/sitemark/sitemark/FeatureIdentifiedPinLaw -/
def k1 : Class := { plain "com/example/sitemark/sitemark/FeatureIdentifiedPinLaw" (some 0) with
  accessFlags := 49
  interfaces := #[]
  cf := some (fileOf pool1 17 #[] #[{ accessFlags := 2, nameIndex := 5, descriptorIndex := 6, attributes := #[] }, { accessFlags := 10, nameIndex := 20, descriptorIndex := 21, attributes := #[] }, { accessFlags := 9, nameIndex := 43, descriptorIndex := 44, attributes := #[] }] 49 2 #[] #[])
  fields := #[]
  methods := #[k1m0, k1m1, k1m2]
  instanceTypes := #[]
  staticTypes := #[]
  resolved := Array.replicate 51 none
  statics := none }

def pool2 : Array CpInfo := pool [(1, .class_ 2), (0, u "java/io/Serializable"), (0, .class_ 4), (0, u "java/lang/Object")] 2

/-- java/io/Serializable -/
def k2 : Class := { plain "java/io/Serializable" (some 0) with
  accessFlags := 1537
  interfaces := #[]
  cf := some (fileOf pool2 1 #[] #[] 1537 3 #[] #[])
  fields := #[]
  methods := #[]
  instanceTypes := #[]
  staticTypes := #[]
  resolved := Array.replicate 7 none
  statics := none }

def pool3 : Array CpInfo := pool [(1, .class_ 2), (0, u "java/lang/Comparable"), (0, .class_ 4), (0, u "java/lang/Object")] 7

/-- java/lang/Comparable -/
def k3 : Class := { plain "java/lang/Comparable" (some 0) with
  accessFlags := 1537
  interfaces := #[]
  cf := some (fileOf pool3 1 #[] #[] 1537 3 #[] #[])
  fields := #[]
  methods := #[]
  instanceTypes := #[]
  staticTypes := #[]
  resolved := Array.replicate 12 none
  statics := none }

def pool4 : Array CpInfo := pool [(2, .class_ 4), (1, u "java/lang/CharSequence"), (42, .class_ 48), (0, u "java/lang/CharSequence$1CodePointIterator"), (10, .class_ 60), (0, u "java/lang/CharSequence$1CharIterator"), (5, .class_ 67), (0, u "java/lang/Object")] 63

/-- java/lang/CharSequence -/
def k4 : Class := { plain "java/lang/CharSequence" (some 0) with
  accessFlags := 1537
  interfaces := #[]
  cf := some (fileOf pool4 2 #[.nestMembers #[47, 59]] #[] 1537 66 #[] #[])
  fields := #[]
  methods := #[]
  instanceTypes := #[]
  staticTypes := #[]
  resolved := Array.replicate 131 none
  statics := none }

def pool5 : Array CpInfo := pool [(1, .class_ 2), (0, u "java/lang/constant/Constable"), (0, .class_ 4), (0, u "java/lang/Object")] 6

/-- java/lang/constant/Constable -/
def k5 : Class := { plain "java/lang/constant/Constable" (some 0) with
  accessFlags := 1537
  interfaces := #[]
  cf := some (fileOf pool5 1 #[] #[] 1537 3 #[] #[])
  fields := #[]
  methods := #[]
  instanceTypes := #[]
  staticTypes := #[]
  resolved := Array.replicate 11 none
  statics := none }

def pool6 : Array CpInfo := pool [(1, .class_ 2), (0, u "java/lang/constant/ConstantDesc"), (0, .class_ 4), (0, u "java/lang/Object")] 32

/-- java/lang/constant/ConstantDesc -/
def k6 : Class := { plain "java/lang/constant/ConstantDesc" (some 0) with
  accessFlags := 1537
  interfaces := #[]
  cf := some (fileOf pool6 1 #[] #[] 1537 3 #[] #[])
  fields := #[]
  methods := #[]
  instanceTypes := #[]
  staticTypes := #[]
  resolved := Array.replicate 37 none
  statics := none }

def pool7 : Array CpInfo := pool [(1, .methodref 2 3), (0, .class_ 4), (0, .nameAndType 5 6), (0, u "java/lang/Object"), (0, u "<init>"), (0, u "()V"), (0, .string 8), (0, u ""), (0, .fieldref 10 11), (0, .class_ 12), (0, .nameAndType 13 14), (0, u "java/lang/String"), (0, u "value"), (0, u "[B"), (0, .fieldref 10 16), (0, .nameAndType 17 18), (0, u "coder"), (0, u "B"), (2, u "hash"), (0, u "I"), (2, u "hashIsZero"), (0, u "Z"), (0, .methodref 10 28), (0, .nameAndType 5 29), (0, u "([CIILjava/lang/Void;)V"), (8, .fieldref 10 39), (0, .nameAndType 40 26), (0, u "COMPACT_STRINGS"), (1, .class_ 44), (1, u "java/lang/StringUTF16"), (0, u "compress"), (1, .methodref 42 48), (0, .nameAndType 49 50), (0, u "coderFromArrayLen"), (0, u "([BI)B"), (2, u "toBytes"), (53, .class_ 109), (1, u "java/lang/StringLatin1"), (67, .methodref 42 178), (0, .nameAndType 45 179), (0, u "([CII)[B"), (29, .methodref 10 210), (0, .nameAndType 5 211), (0, u "([BB)V"), (157, u "(C)Z"), (205, .class_ 576), (0, u "java/lang/CharSequence"), (22, u "CASE_INSENSITIVE_ORDER"), (0, u "Ljava/util/Comparator;"), (181, u "valueOf"), (0, u "(C)Ljava/lang/String;"), (226, u "([C)V"), (4, .methodref 107 1016), (0, .nameAndType 1017 369), (0, u "canEncode"), (0, .methodref 107 1019), (0, .nameAndType 53 1020), (0, u "(C)[B"), (80, u "serialPersistentFields"), (0, u "[Ljava/io/ObjectStreamField;"), (0, .class_ 1104), (0, u "java/lang/String$CaseInsensitiveComparator"), (1, .class_ 1107), (0, u "java/io/Serializable"), (0, .class_ 1109), (0, u "java/lang/Comparable"), (0, .class_ 1111), (0, u "java/lang/constant/Constable"), (0, .class_ 1113), (0, u "java/lang/constant/ConstantDesc"), (2, u "serialVersionUID"), (0, u "J"), (3, u "REPL"), (0, u "C"), (2, u "LATIN1"), (1, u "UTF16")] 323

def k7m0 : Method := { name := "<init>", desc := "()V", sig := { parameters := [], returnType := none }, accessFlags := 1, code := none }
def k7c1 : Code := { maxStack := 5, maxLocals := 2, code := jdk_42_method_3_code, exceptionTable := #[], attributes := #[] }
def k7m1 : Method := { name := "<init>", desc := "([C)V", sig := { parameters := [(.array .char)], returnType := none }, accessFlags := 1, code := some k7c1 }
def k7c2 : Code := { maxStack := 4, maxLocals := 1, code := jdk_42_method_139_code, exceptionTable := #[], attributes := #[] }
def k7m2 : Method := { name := "valueOf", desc := "(C)Ljava/lang/String;", sig := { parameters := [.char], returnType := some (.object "java/lang/String") }, accessFlags := 9, code := some k7c2 }
def k7c3 : Code := { maxStack := 4, maxLocals := 6, code := jdk_42_method_149_code, exceptionTable := #[], attributes := #[] }
def k7m3 : Method := { name := "<init>", desc := "([CIILjava/lang/Void;)V", sig := { parameters := [(.array .char), .int, .int, (.object "java/lang/Void")], returnType := none }, accessFlags := 2, code := some k7c3 }
def k7c4 : Code := { maxStack := 2, maxLocals := 3, code := jdk_42_method_151_code, exceptionTable := #[], attributes := #[] }
def k7m4 : Method := { name := "<init>", desc := "([BB)V", sig := { parameters := [(.array .byte), .byte], returnType := none }, accessFlags := 0, code := some k7c4 }
/-- java/lang/String -/
def k7 : Class := { plain "java/lang/String" (some 0) with
  accessFlags := 49
  interfaces := #[2, 3, 4, 5, 6]
  cf := some (fileOf pool7 10 #[.nestMembers #[1103]] #[{ accessFlags := 1, nameIndex := 5, descriptorIndex := 6, attributes := #[] }, { accessFlags := 1, nameIndex := 5, descriptorIndex := 1010, attributes := #[] }, { accessFlags := 9, nameIndex := 782, descriptorIndex := 783, attributes := #[] }, { accessFlags := 2, nameIndex := 5, descriptorIndex := 29, attributes := #[] }, { accessFlags := 0, nameIndex := 5, descriptorIndex := 211, attributes := #[] }] 49 2 #[1106, 1108, 575, 1110, 1112] #[{ accessFlags := 18, nameIndex := 13, descriptorIndex := 14, attributes := #[] }, { accessFlags := 18, nameIndex := 17, descriptorIndex := 18, attributes := #[] }, { accessFlags := 2, nameIndex := 21, descriptorIndex := 22, attributes := #[] }, { accessFlags := 2, nameIndex := 25, descriptorIndex := 26, attributes := #[] }, { accessFlags := 26, nameIndex := 1116, descriptorIndex := 1117, attributes := #[] }, { accessFlags := 24, nameIndex := 40, descriptorIndex := 26, attributes := #[] }, { accessFlags := 26, nameIndex := 1101, descriptorIndex := 1102, attributes := #[] }, { accessFlags := 26, nameIndex := 1121, descriptorIndex := 1122, attributes := #[] }, { accessFlags := 25, nameIndex := 599, descriptorIndex := 600, attributes := #[] }, { accessFlags := 24, nameIndex := 1125, descriptorIndex := 18, attributes := #[] }, { accessFlags := 24, nameIndex := 1127, descriptorIndex := 18, attributes := #[] }])
  fields := #[{ name := "value", type := (.array .byte), accessFlags := 18, slot := 0, constantValue := 0 }, { name := "coder", type := .byte, accessFlags := 18, slot := 1, constantValue := 0 }, { name := "hash", type := .int, accessFlags := 2, slot := 2, constantValue := 0 }, { name := "hashIsZero", type := .boolean, accessFlags := 2, slot := 3, constantValue := 0 }, { name := "serialVersionUID", type := .long, accessFlags := 26, slot := 0, constantValue := 0 }, { name := "COMPACT_STRINGS", type := .boolean, accessFlags := 24, slot := 1, constantValue := 0 }, { name := "serialPersistentFields", type := (.array (.object "java/io/ObjectStreamField")), accessFlags := 26, slot := 2, constantValue := 0 }, { name := "REPL", type := .char, accessFlags := 26, slot := 3, constantValue := 0 }, { name := "CASE_INSENSITIVE_ORDER", type := (.object "java/util/Comparator"), accessFlags := 25, slot := 4, constantValue := 0 }, { name := "LATIN1", type := .byte, accessFlags := 24, slot := 5, constantValue := 0 }, { name := "UTF16", type := .byte, accessFlags := 24, slot := 6, constantValue := 0 }]
  methods := #[k7m0, k7m1, k7m2, k7m3, k7m4]
  instanceTypes := #[(.array .byte), .byte, .int, .boolean]
  staticTypes := #[.long, .boolean, (.array (.object "java/io/ObjectStreamField")), .char, (.object "java/util/Comparator"), .byte, .byte]
  resolved := Array.replicate 1451 none
  statics := some 0 }

def pool8 : Array CpInfo := pool [(6, .class_ 8), (1, u "java/lang/Object"), (0, u "<init>"), (0, u "()V"), (1, .class_ 14), (1, u "java/lang/StringUTF16"), (31, u "$assertionsDisabled"), (0, u "Z"), (13, u "HI_BYTE_SHIFT"), (0, u "I"), (2, u "LO_BYTE_SHIFT"), (49, .methodref 12 116), (0, .nameAndType 117 118), (0, u "compress"), (0, u "([CI[BII)I"), (3, u "([CII)[B"), (138, u "coderFromArrayLen"), (0, u "([BI)B"), (106, .class_ 371), (1, u "java/lang/StringUTF16$LinesSpliterator"), (58, u "MAX_LENGTH"), (196, .class_ 628), (0, u "java/lang/StringUTF16$CodePointsSpliterator"), (0, .class_ 630), (0, u "java/lang/StringUTF16$CharsSpliterator")] 4

def k8m0 : Method := { name := "<init>", desc := "()V", sig := { parameters := [], returnType := none }, accessFlags := 0, code := none }
def k8c1 : Code := { maxStack := 2, maxLocals := 2, code := jdk_52_method_15_code, exceptionTable := #[], attributes := #[] }
def k8m1 : Method := { name := "coderFromArrayLen", desc := "([BI)B", sig := { parameters := [(.array .byte), .int], returnType := some .byte }, accessFlags := 8, code := some k8c1 }
def k8c2 : Code := { maxStack := 5, maxLocals := 6, code := jdk_52_method_16_code, exceptionTable := #[], attributes := #[] }
def k8m2 : Method := { name := "compress", desc := "([CII)[B", sig := { parameters := [(.array .char), .int, .int], returnType := some (.array .byte) }, accessFlags := 9, code := some k8c2 }
def k8c3 : Code := { maxStack := 3, maxLocals := 7, code := jdk_52_method_21_code, exceptionTable := #[], attributes := #[] }
def k8m3 : Method := { name := "compress", desc := "([CI[BII)I", sig := { parameters := [(.array .char), .int, (.array .byte), .int, .int], returnType := some .int }, accessFlags := 9, code := some k8c3 }
/-- java/lang/StringUTF16 -/
def k8 : Class := { plain "java/lang/StringUTF16" (some 0) with
  accessFlags := 48
  interfaces := #[]
  cf := some (fileOf pool8 12 #[.nestMembers #[627, 629, 369]] #[{ accessFlags := 0, nameIndex := 9, descriptorIndex := 10, attributes := #[] }, { accessFlags := 8, nameIndex := 261, descriptorIndex := 262, attributes := #[] }, { accessFlags := 9, nameIndex := 117, descriptorIndex := 122, attributes := #[] }, { accessFlags := 9, nameIndex := 117, descriptorIndex := 118, attributes := #[] }] 48 6 #[] #[{ accessFlags := 26, nameIndex := 61, descriptorIndex := 62, attributes := #[] }, { accessFlags := 26, nameIndex := 65, descriptorIndex := 62, attributes := #[] }, { accessFlags := 24, nameIndex := 430, descriptorIndex := 62, attributes := #[] }, { accessFlags := 4120, nameIndex := 46, descriptorIndex := 47, attributes := #[] }])
  fields := #[{ name := "HI_BYTE_SHIFT", type := .int, accessFlags := 26, slot := 0, constantValue := 0 }, { name := "LO_BYTE_SHIFT", type := .int, accessFlags := 26, slot := 1, constantValue := 0 }, { name := "MAX_LENGTH", type := .int, accessFlags := 24, slot := 2, constantValue := 0 }, { name := "$assertionsDisabled", type := .boolean, accessFlags := 4120, slot := 3, constantValue := 0 }]
  methods := #[k8m0, k8m1, k8m2, k8m3]
  instanceTypes := #[]
  staticTypes := #[.int, .int, .int, .boolean]
  resolved := Array.replicate 635 none
  statics := none }

def pool9 : Array CpInfo := pool [(4, .class_ 6), (1, u "java/lang/Object"), (0, u "<init>"), (0, u "()V"), (5, .class_ 16), (1, u "java/lang/StringLatin1"), (73, u "canEncode"), (14, u "(C)Z"), (15, u "$assertionsDisabled"), (0, u "Z"), (98, .class_ 223), (1, u "java/lang/StringLatin1$LinesSpliterator"), (156, u "toBytes"), (1, u "(C)[B"), (7, .class_ 391), (0, u "java/lang/StringLatin1$CharsSpliterator")] 3

def k9m0 : Method := { name := "<init>", desc := "()V", sig := { parameters := [], returnType := none }, accessFlags := 0, code := none }
def k9c1 : Code := { maxStack := 2, maxLocals := 1, code := jdk_43_method_3_code, exceptionTable := #[], attributes := #[] }
def k9m1 : Method := { name := "canEncode", desc := "(C)Z", sig := { parameters := [.char], returnType := some .boolean }, accessFlags := 9, code := some k9c1 }
def k9c2 : Code := { maxStack := 4, maxLocals := 1, code := jdk_43_method_46_code, exceptionTable := #[], attributes := #[] }
def k9m2 : Method := { name := "toBytes", desc := "(C)[B", sig := { parameters := [.char], returnType := some (.array .byte) }, accessFlags := 9, code := some k9c2 }
/-- java/lang/StringLatin1 -/
def k9 : Class := { plain "java/lang/StringLatin1" (some 0) with
  accessFlags := 48
  interfaces := #[]
  cf := some (fileOf pool9 14 #[.nestMembers #[390, 221]] #[{ accessFlags := 0, nameIndex := 7, descriptorIndex := 8, attributes := #[] }, { accessFlags := 9, nameIndex := 90, descriptorIndex := 105, attributes := #[] }, { accessFlags := 9, nameIndex := 380, descriptorIndex := 382, attributes := #[] }] 48 4 #[] #[{ accessFlags := 4120, nameIndex := 121, descriptorIndex := 122, attributes := #[] }])
  fields := #[{ name := "$assertionsDisabled", type := .boolean, accessFlags := 4120, slot := 0, constantValue := 0 }]
  methods := #[k9m0, k9m1, k9m2]
  instanceTypes := #[]
  staticTypes := #[.boolean]
  resolved := Array.replicate 395 none
  statics := none }

def pool10 : Array CpInfo := pool [(8, .class_ 10), (1, u "java/lang/Iterable"), (24, .class_ 36), (0, u "java/lang/Object")] 25

/-- java/lang/Iterable -/
def k10 : Class := { plain "java/lang/Iterable" (some 0) with
  accessFlags := 1537
  interfaces := #[]
  cf := some (fileOf pool10 8 #[] #[] 1537 35 #[] #[])
  fields := #[]
  methods := #[]
  instanceTypes := #[]
  staticTypes := #[]
  resolved := Array.replicate 62 none
  statics := none }

def pool11 : Array CpInfo := pool [(10, .class_ 12), (1, u "java/util/Collection"), (47, .class_ 61), (0, u "java/lang/Object"), (0, .class_ 63), (0, u "java/lang/Iterable")] 51

/-- java/util/Collection -/
def k11 : Class := { plain "java/util/Collection" (some 0) with
  accessFlags := 1537
  interfaces := #[10]
  cf := some (fileOf pool11 10 #[] #[] 1537 60 #[62] #[])
  fields := #[]
  methods := #[]
  instanceTypes := #[]
  staticTypes := #[]
  resolved := Array.replicate 115 none
  statics := none }

def pool12 : Array CpInfo := pool [(1, .methodref 2 3), (0, .class_ 4), (0, .nameAndType 5 6), (0, u "java/lang/Object"), (0, u "<init>"), (0, u "()V"), (1, .class_ 10), (1, u "java/util/AbstractCollection"), (66, .class_ 78), (0, u "java/util/Collection")] 81

def k12c0 : Code := { maxStack := 1, maxLocals := 1, code := jdk_22_method_1_code, exceptionTable := #[], attributes := #[] }
def k12m0 : Method := { name := "<init>", desc := "()V", sig := { parameters := [], returnType := none }, accessFlags := 4, code := some k12c0 }
/-- java/util/AbstractCollection -/
def k12 : Class := { plain "java/util/AbstractCollection" (some 0) with
  accessFlags := 1057
  interfaces := #[11]
  cf := some (fileOf pool12 8 #[] #[{ accessFlags := 4, nameIndex := 5, descriptorIndex := 6, attributes := #[] }] 1057 2 #[77] #[])
  fields := #[]
  methods := #[k12m0]
  instanceTypes := #[]
  staticTypes := #[]
  resolved := Array.replicate 160 none
  statics := none }

def pool13 : Array CpInfo := pool [(8, .class_ 10), (1, u "java/util/SequencedCollection"), (15, .class_ 27), (0, u "java/lang/Object"), (0, .class_ 29), (0, u "java/util/Collection")] 27

/-- java/util/SequencedCollection -/
def k13 : Class := { plain "java/util/SequencedCollection" (some 0) with
  accessFlags := 1537
  interfaces := #[11]
  cf := some (fileOf pool13 8 #[] #[] 1537 26 #[28] #[])
  fields := #[]
  methods := #[]
  instanceTypes := #[]
  staticTypes := #[]
  resolved := Array.replicate 57 none
  statics := none }

def pool14 : Array CpInfo := pool [(8, .class_ 10), (1, u "java/util/List"), (49, u "add"), (3, u "(Ljava/lang/Object;)Z"), (38, .class_ 104), (0, u "java/lang/Object"), (15, .class_ 121), (0, u "java/util/SequencedCollection")] 129

def k14m0 : Method := { name := "add", desc := "(Ljava/lang/Object;)Z", sig := { parameters := [(.object "java/lang/Object")], returnType := some .boolean }, accessFlags := 1025, code := none }
/-- java/util/List -/
def k14 : Class := { plain "java/util/List" (some 0) with
  accessFlags := 1537
  interfaces := #[13]
  cf := some (fileOf pool14 8 #[] #[{ accessFlags := 1025, nameIndex := 60, descriptorIndex := 64, attributes := #[] }] 1537 103 #[120] #[])
  fields := #[]
  methods := #[k14m0]
  instanceTypes := #[]
  staticTypes := #[]
  resolved := Array.replicate 251 none
  statics := none }

def pool15 : Array CpInfo := pool [(1, .methodref 2 3), (0, .class_ 4), (0, .nameAndType 5 6), (0, u "java/util/AbstractCollection"), (0, u "<init>"), (0, u "()V"), (0, .fieldref 8 9), (0, .class_ 10), (0, .nameAndType 11 12), (0, u "java/util/AbstractList"), (0, u "modCount"), (0, u "I"), (64, .class_ 78), (0, u "java/util/AbstractList$Itr"), (3, .class_ 83), (0, u "java/util/AbstractList$ListItr"), (9, .class_ 94), (0, u "java/util/AbstractList$RandomAccessSubList"), (3, .class_ 99), (0, u "java/util/AbstractList$SubList"), (33, .class_ 134), (0, u "java/util/List"), (73, .class_ 209), (0, u "java/util/AbstractList$SubList$1"), (0, .class_ 211), (0, u "java/util/AbstractList$RandomAccessSpliterator")] 6

def k15c0 : Code := { maxStack := 2, maxLocals := 1, code := jdk_39_method_1_code, exceptionTable := #[], attributes := #[] }
def k15m0 : Method := { name := "<init>", desc := "()V", sig := { parameters := [], returnType := none }, accessFlags := 4, code := some k15c0 }
/-- java/util/AbstractList -/
def k15 : Class := { plain "java/util/AbstractList" (some 12) with
  accessFlags := 1057
  interfaces := #[14]
  cf := some (fileOf pool15 8 #[.nestMembers #[93, 98, 208, 210, 82, 77]] #[{ accessFlags := 4, nameIndex := 5, descriptorIndex := 6, attributes := #[] }] 1057 2 #[133] #[{ accessFlags := 132, nameIndex := 11, descriptorIndex := 12, attributes := #[] }])
  fields := #[{ name := "modCount", type := .int, accessFlags := 132, slot := 0, constantValue := 0 }]
  methods := #[k15m0]
  instanceTypes := #[.int]
  staticTypes := #[]
  resolved := Array.replicate 218 none
  statics := none }

def pool16 : Array CpInfo := pool [(1, .class_ 2), (0, u "java/util/RandomAccess"), (0, .class_ 4), (0, u "java/lang/Object")] 2

/-- java/util/RandomAccess -/
def k16 : Class := { plain "java/util/RandomAccess" (some 0) with
  accessFlags := 1537
  interfaces := #[]
  cf := some (fileOf pool16 1 #[] #[] 1537 3 #[] #[])
  fields := #[]
  methods := #[]
  instanceTypes := #[]
  staticTypes := #[]
  resolved := Array.replicate 7 none
  statics := none }

def pool17 : Array CpInfo := pool [(1, .class_ 2), (0, u "java/lang/Cloneable"), (0, .class_ 4), (0, u "java/lang/Object")] 2

/-- java/lang/Cloneable -/
def k17 : Class := { plain "java/lang/Cloneable" (some 0) with
  accessFlags := 1537
  interfaces := #[]
  cf := some (fileOf pool17 1 #[] #[] 1537 3 #[] #[])
  fields := #[]
  methods := #[]
  instanceTypes := #[]
  staticTypes := #[]
  resolved := Array.replicate 7 none
  statics := none }

def pool18 : Array CpInfo := pool [(1, .methodref 2 3), (0, .class_ 4), (0, .nameAndType 5 6), (0, u "java/util/AbstractList"), (0, u "<init>"), (0, u "()V"), (0, .class_ 8), (0, u "java/lang/Object"), (0, .fieldref 10 11), (0, .class_ 12), (0, .nameAndType 13 14), (0, u "java/util/ArrayList"), (0, u "elementData"), (0, u "[Ljava/lang/Object;"), (2, u "EMPTY_ELEMENTDATA"), (21, .fieldref 10 40), (0, .nameAndType 41 14), (0, u "DEFAULTCAPACITY_EMPTY_ELEMENTDATA"), (5, u "()[Ljava/lang/Object;"), (0, .fieldref 10 49), (0, .nameAndType 50 51), (0, u "size"), (0, u "I"), (11, .fieldref 10 64), (0, .nameAndType 65 51), (0, u "modCount"), (3, .methodref 10 70), (0, .nameAndType 71 72), (0, u "grow"), (0, u "(I)[Ljava/lang/Object;"), (6, .methodref 80 81), (0, .class_ 82), (0, .nameAndType 83 84), (0, u "java/lang/Math"), (0, u "max"), (0, u "(II)I"), (11, u "(Ljava/lang/Object;)Z"), (32, .methodref 10 130), (0, .nameAndType 71 47), (0, .methodref 10 132), (0, .nameAndType 133 134), (0, u "add"), (0, u "(Ljava/lang/Object;[Ljava/lang/Object;I)V"), (13, .class_ 149), (0, u "java/util/List"), (112, .class_ 263), (0, u "java/util/ArrayList$ListItr"), (3, .class_ 268), (0, u "java/util/ArrayList$Itr"), (7, .class_ 277), (0, u "java/util/ArrayList$SubList"), (12, .class_ 291), (0, u "java/util/ArrayList$ArrayListSpliterator"), (37, .class_ 330), (0, u "java/util/RandomAccess"), (0, .class_ 332), (0, u "java/lang/Cloneable"), (0, .class_ 334), (0, u "java/io/Serializable"), (0, u "serialVersionUID"), (0, u "J"), (3, u "DEFAULT_CAPACITY"), (159, .class_ 501), (0, u "java/util/ArrayList$SubList$2"), (0, .class_ 503), (0, u "java/util/ArrayList$SubList$1")] 5

def k18c0 : Code := { maxStack := 2, maxLocals := 1, code := jdk_38_method_2_code, exceptionTable := #[], attributes := #[] }
def k18m0 : Method := { name := "<init>", desc := "()V", sig := { parameters := [], returnType := none }, accessFlags := 1, code := some k18c0 }
def k18c1 : Code := { maxStack := 4, maxLocals := 4, code := jdk_38_method_6_code, exceptionTable := #[], attributes := #[] }
def k18m1 : Method := { name := "grow", desc := "(I)[Ljava/lang/Object;", sig := { parameters := [.int], returnType := some (.array (.object "java/lang/Object")) }, accessFlags := 2, code := some k18c1 }
def k18c2 : Code := { maxStack := 3, maxLocals := 1, code := jdk_38_method_7_code, exceptionTable := #[], attributes := #[] }
def k18m2 : Method := { name := "grow", desc := "()[Ljava/lang/Object;", sig := { parameters := [], returnType := some (.array (.object "java/lang/Object")) }, accessFlags := 2, code := some k18c2 }
def k18c3 : Code := { maxStack := 3, maxLocals := 4, code := jdk_38_method_24_code, exceptionTable := #[], attributes := #[] }
def k18m3 : Method := { name := "add", desc := "(Ljava/lang/Object;[Ljava/lang/Object;I)V", sig := { parameters := [(.object "java/lang/Object"), (.array (.object "java/lang/Object")), .int], returnType := none }, accessFlags := 2, code := some k18c3 }
def k18c4 : Code := { maxStack := 4, maxLocals := 2, code := jdk_38_method_25_code, exceptionTable := #[], attributes := #[] }
def k18m4 : Method := { name := "add", desc := "(Ljava/lang/Object;)Z", sig := { parameters := [(.object "java/lang/Object")], returnType := some .boolean }, accessFlags := 1, code := some k18c4 }
/-- java/util/ArrayList -/
def k18 : Class := { plain "java/util/ArrayList" (some 15) with
  accessFlags := 33
  interfaces := #[14, 16, 17, 2]
  cf := some (fileOf pool18 10 #[.nestMembers #[290, 276, 500, 502, 262, 267]] #[{ accessFlags := 1, nameIndex := 5, descriptorIndex := 6, attributes := #[] }, { accessFlags := 2, nameIndex := 71, descriptorIndex := 72, attributes := #[] }, { accessFlags := 2, nameIndex := 71, descriptorIndex := 47, attributes := #[] }, { accessFlags := 2, nameIndex := 133, descriptorIndex := 134, attributes := #[] }, { accessFlags := 1, nameIndex := 133, descriptorIndex := 96, attributes := #[] }] 33 2 #[148, 329, 331, 333] #[{ accessFlags := 26, nameIndex := 335, descriptorIndex := 336, attributes := #[] }, { accessFlags := 26, nameIndex := 340, descriptorIndex := 51, attributes := #[] }, { accessFlags := 26, nameIndex := 17, descriptorIndex := 14, attributes := #[] }, { accessFlags := 26, nameIndex := 41, descriptorIndex := 14, attributes := #[] }, { accessFlags := 128, nameIndex := 13, descriptorIndex := 14, attributes := #[] }, { accessFlags := 2, nameIndex := 50, descriptorIndex := 51, attributes := #[] }])
  fields := #[{ name := "serialVersionUID", type := .long, accessFlags := 26, slot := 0, constantValue := 0 }, { name := "DEFAULT_CAPACITY", type := .int, accessFlags := 26, slot := 1, constantValue := 0 }, { name := "EMPTY_ELEMENTDATA", type := (.array (.object "java/lang/Object")), accessFlags := 26, slot := 2, constantValue := 0 }, { name := "DEFAULTCAPACITY_EMPTY_ELEMENTDATA", type := (.array (.object "java/lang/Object")), accessFlags := 26, slot := 3, constantValue := 0 }, { name := "elementData", type := (.array (.object "java/lang/Object")), accessFlags := 128, slot := 1, constantValue := 0 }, { name := "size", type := .int, accessFlags := 2, slot := 2, constantValue := 0 }]
  methods := #[k18m0, k18m1, k18m2, k18m3, k18m4]
  instanceTypes := #[.int, (.array (.object "java/lang/Object")), .int]
  staticTypes := #[.long, .int, (.array (.object "java/lang/Object")), (.array (.object "java/lang/Object"))]
  resolved := Array.replicate 509 none
  statics := some 1 }

def pool19 : Array CpInfo := pool [(1, .methodref 2 3), (0, .class_ 4), (0, .nameAndType 5 6), (0, u "java/lang/Object"), (0, u "<init>"), (0, u "()V"), (0, .class_ 8), (0, u "java/lang/Record")] 13

def k19c0 : Code := { maxStack := 1, maxLocals := 1, code := jdk_30_method_1_code, exceptionTable := #[], attributes := #[] }
def k19m0 : Method := { name := "<init>", desc := "()V", sig := { parameters := [], returnType := none }, accessFlags := 4, code := some k19c0 }
/-- java/lang/Record -/
def k19 : Class := { plain "java/lang/Record" (some 0) with
  accessFlags := 1057
  interfaces := #[]
  cf := some (fileOf pool19 7 #[] #[{ accessFlags := 4, nameIndex := 5, descriptorIndex := 6, attributes := #[] }] 1057 2 #[] #[])
  fields := #[]
  methods := #[k19m0]
  instanceTypes := #[]
  staticTypes := #[]
  resolved := Array.replicate 22 none
  statics := none }

def pool20 : Array CpInfo := pool [(1, .methodref 2 3), (0, .class_ 4), (0, .nameAndType 5 6), (0, u "java/lang/Record"), (0, u "<init>"), (0, u "()V"), (0, .fieldref 8 9), (0, .class_ 10), (0, .nameAndType 11 12), (0, u "com/example/sitemark/sitemark/SiteMap$Feature"), (0, u "url"), (0, u "Ljava/lang/String;"), (0, .fieldref 8 14), (0, .nameAndType 15 12), (0, u "id"), (0, .fieldref 8 17), (0, .nameAndType 18 12), (0, u "version"), (0, .fieldref 8 20), (0, .nameAndType 21 22), (0, u "patch"), (0, u "Z"), (0, .fieldref 8 24), (0, .nameAndType 25 26), (0, u "categories"), (0, u "Ljava/util/List;"), (0, .fieldref 8 28), (0, .nameAndType 29 12), (0, u "os"), (0, .fieldref 8 31), (0, .nameAndType 32 12), (0, u "ws"), (0, .fieldref 8 34), (0, .nameAndType 35 12), (0, u "arch"), (0, .fieldref 8 37), (0, .nameAndType 38 12), (0, u "nl"), (14, u "(Ljava/lang/String;Ljava/lang/String;Ljava/lang/String;ZLjava/util/List;Ljava/lang/String;Ljava/lang/String;Ljava/lang/String;Ljava/lang/String;)V"), (4, u "identified"), (0, u "()Z"), (9, .class_ 70), (0, u "com/example/sitemark/sitemark/SiteMap")] 27

def k20c0 : Code := { maxStack := 2, maxLocals := 10, code := prog_46_method_1_code, exceptionTable := #[], attributes := #[] }
def k20m0 : Method := { name := "<init>", desc := "(Ljava/lang/String;Ljava/lang/String;Ljava/lang/String;ZLjava/util/List;Ljava/lang/String;Ljava/lang/String;Ljava/lang/String;Ljava/lang/String;)V", sig := { parameters := [(.object "java/lang/String"), (.object "java/lang/String"), (.object "java/lang/String"), .boolean, (.object "java/util/List"), (.object "java/lang/String"), (.object "java/lang/String"), (.object "java/lang/String"), (.object "java/lang/String")], returnType := none }, accessFlags := 1, code := some k20c0 }
def k20c1 : Code := { maxStack := 1, maxLocals := 1, code := prog_46_method_2_code, exceptionTable := #[], attributes := #[] }
def k20m1 : Method := { name := "identified", desc := "()Z", sig := { parameters := [], returnType := some .boolean }, accessFlags := 1, code := some k20c1 }
/-- com/example/sitemark/sitemark/SiteMap$Feature -/
def k20 : Class := { plain "com/example/sitemark/sitemark/SiteMap$Feature" (some 19) with
  accessFlags := 49
  interfaces := #[]
  cf := some (fileOf pool20 8 #[.nestHost 69] #[{ accessFlags := 1, nameIndex := 5, descriptorIndex := 53, attributes := #[] }, { accessFlags := 1, nameIndex := 58, descriptorIndex := 59, attributes := #[] }] 49 2 #[] #[{ accessFlags := 18, nameIndex := 11, descriptorIndex := 12, attributes := #[] }, { accessFlags := 18, nameIndex := 15, descriptorIndex := 12, attributes := #[] }, { accessFlags := 18, nameIndex := 18, descriptorIndex := 12, attributes := #[] }, { accessFlags := 18, nameIndex := 21, descriptorIndex := 22, attributes := #[] }, { accessFlags := 18, nameIndex := 25, descriptorIndex := 26, attributes := #[] }, { accessFlags := 18, nameIndex := 29, descriptorIndex := 12, attributes := #[] }, { accessFlags := 18, nameIndex := 32, descriptorIndex := 12, attributes := #[] }, { accessFlags := 18, nameIndex := 35, descriptorIndex := 12, attributes := #[] }, { accessFlags := 18, nameIndex := 38, descriptorIndex := 12, attributes := #[] }])
  fields := #[{ name := "url", type := (.object "java/lang/String"), accessFlags := 18, slot := 0, constantValue := 0 }, { name := "id", type := (.object "java/lang/String"), accessFlags := 18, slot := 1, constantValue := 0 }, { name := "version", type := (.object "java/lang/String"), accessFlags := 18, slot := 2, constantValue := 0 }, { name := "patch", type := .boolean, accessFlags := 18, slot := 3, constantValue := 0 }, { name := "categories", type := (.object "java/util/List"), accessFlags := 18, slot := 4, constantValue := 0 }, { name := "os", type := (.object "java/lang/String"), accessFlags := 18, slot := 5, constantValue := 0 }, { name := "ws", type := (.object "java/lang/String"), accessFlags := 18, slot := 6, constantValue := 0 }, { name := "arch", type := (.object "java/lang/String"), accessFlags := 18, slot := 7, constantValue := 0 }, { name := "nl", type := (.object "java/lang/String"), accessFlags := 18, slot := 8, constantValue := 0 }]
  methods := #[k20m0, k20m1]
  instanceTypes := #[(.object "java/lang/String"), (.object "java/lang/String"), (.object "java/lang/String"), .boolean, (.object "java/util/List"), (.object "java/lang/String"), (.object "java/lang/String"), (.object "java/lang/String"), (.object "java/lang/String")]
  staticTypes := #[]
  resolved := Array.replicate 98 none
  statics := none }

def pool21 : Array CpInfo := pool [(1, .class_ 2), (0, u "java/lang/Math"), (1, .class_ 6), (1, u "java/lang/Object"), (0, u "<init>"), (0, u "()V"), (89, .class_ 100), (1, u "java/lang/Math$RandomNumberGeneratorHolder"), (71, u "negativeZeroFloatBits"), (0, u "J"), (2, u "negativeZeroDoubleBits"), (21, u "max"), (46, u "$assertionsDisabled"), (0, u "Z"), (88, u "(II)I"), (2, u "twoToTheDoubleScaleDown"), (0, u "D"), (4, u "twoToTheDoubleScaleUp"), (9, u "E"), (3, u "PI"), (2, u "TAU"), (2, u "DEGREES_TO_RADIANS"), (0, u "RADIANS_TO_DEGREES")] 94

def k21m0 : Method := { name := "<init>", desc := "()V", sig := { parameters := [], returnType := none }, accessFlags := 2, code := none }
def k21c1 : Code := { maxStack := 2, maxLocals := 2, code := jdk_29_method_65_code, exceptionTable := #[], attributes := #[] }
def k21m1 : Method := { name := "max", desc := "(II)I", sig := { parameters := [.int, .int], returnType := some .int }, accessFlags := 9, code := some k21c1 }
/-- java/lang/Math -/
def k21 : Class := { plain "java/lang/Math" (some 0) with
  accessFlags := 49
  interfaces := #[]
  cf := some (fileOf pool21 1 #[.nestMembers #[98]] #[{ accessFlags := 2, nameIndex := 7, descriptorIndex := 8, attributes := #[] }, { accessFlags := 9, nameIndex := 198, descriptorIndex := 335, attributes := #[] }] 49 4 #[] #[{ accessFlags := 25, nameIndex := 354, descriptorIndex := 339, attributes := #[] }, { accessFlags := 25, nameIndex := 358, descriptorIndex := 339, attributes := #[] }, { accessFlags := 25, nameIndex := 361, descriptorIndex := 339, attributes := #[] }, { accessFlags := 26, nameIndex := 364, descriptorIndex := 339, attributes := #[] }, { accessFlags := 26, nameIndex := 365, descriptorIndex := 339, attributes := #[] }, { accessFlags := 26, nameIndex := 172, descriptorIndex := 173, attributes := #[] }, { accessFlags := 26, nameIndex := 176, descriptorIndex := 173, attributes := #[] }, { accessFlags := 8, nameIndex := 344, descriptorIndex := 339, attributes := #[] }, { accessFlags := 8, nameIndex := 338, descriptorIndex := 339, attributes := #[] }, { accessFlags := 4120, nameIndex := 245, descriptorIndex := 246, attributes := #[] }])
  fields := #[{ name := "E", type := .double, accessFlags := 25, slot := 0, constantValue := 0 }, { name := "PI", type := .double, accessFlags := 25, slot := 1, constantValue := 0 }, { name := "TAU", type := .double, accessFlags := 25, slot := 2, constantValue := 0 }, { name := "DEGREES_TO_RADIANS", type := .double, accessFlags := 26, slot := 3, constantValue := 0 }, { name := "RADIANS_TO_DEGREES", type := .double, accessFlags := 26, slot := 4, constantValue := 0 }, { name := "negativeZeroFloatBits", type := .long, accessFlags := 26, slot := 5, constantValue := 0 }, { name := "negativeZeroDoubleBits", type := .long, accessFlags := 26, slot := 6, constantValue := 0 }, { name := "twoToTheDoubleScaleUp", type := .double, accessFlags := 8, slot := 7, constantValue := 0 }, { name := "twoToTheDoubleScaleDown", type := .double, accessFlags := 8, slot := 8, constantValue := 0 }, { name := "$assertionsDisabled", type := .boolean, accessFlags := 4120, slot := 9, constantValue := 0 }]
  methods := #[k21m0, k21m1]
  instanceTypes := #[]
  staticTypes := #[.double, .double, .double, .double, .double, .long, .long, .double, .double, .boolean]
  resolved := Array.replicate 460 none
  statics := none }

def pool22 : Array CpInfo := pool [(2, .class_ 4), (1, u "java/lang/Object"), (0, u "<init>"), (0, u "()V"), (17, .class_ 26), (1, u "jdk/internal/util/Preconditions"), (28, .class_ 56), (0, u "jdk/internal/util/Preconditions$4"), (57, .class_ 115), (0, u "jdk/internal/util/Preconditions$1"), (7, u "SIOOBE_FORMATTER"), (0, u "Ljava/util/function/BiFunction;"), (0, .class_ 126), (0, u "jdk/internal/util/Preconditions$2"), (3, u "AIOOBE_FORMATTER"), (0, .class_ 132), (0, u "jdk/internal/util/Preconditions$3"), (3, u "IOOBE_FORMATTER")] 57

def k22m0 : Method := { name := "<init>", desc := "()V", sig := { parameters := [], returnType := none }, accessFlags := 1, code := none }
/-- jdk/internal/util/Preconditions -/
def k22 : Class := { plain "jdk/internal/util/Preconditions" (some 0) with
  accessFlags := 33
  interfaces := #[]
  cf := some (fileOf pool22 24 #[.nestMembers #[55, 131, 125, 114]] #[{ accessFlags := 1, nameIndex := 5, descriptorIndex := 6, attributes := #[] }] 33 2 #[] #[{ accessFlags := 25, nameIndex := 123, descriptorIndex := 124, attributes := #[] }, { accessFlags := 25, nameIndex := 130, descriptorIndex := 124, attributes := #[] }, { accessFlags := 25, nameIndex := 136, descriptorIndex := 124, attributes := #[] }])
  fields := #[{ name := "SIOOBE_FORMATTER", type := (.object "java/util/function/BiFunction"), accessFlags := 25, slot := 0, constantValue := 0 }, { name := "AIOOBE_FORMATTER", type := (.object "java/util/function/BiFunction"), accessFlags := 25, slot := 1, constantValue := 0 }, { name := "IOOBE_FORMATTER", type := (.object "java/util/function/BiFunction"), accessFlags := 25, slot := 2, constantValue := 0 }]
  methods := #[k22m0]
  instanceTypes := #[]
  staticTypes := #[(.object "java/util/function/BiFunction"), (.object "java/util/function/BiFunction"), (.object "java/util/function/BiFunction")]
  resolved := Array.replicate 194 none
  statics := some 2 }

def pool23 : Array CpInfo := pool [(9, u "<init>"), (6, .class_ 18), (1, u "java/lang/Object"), (0, u "()V"), (1, .class_ 23), (1, u "jdk/internal/util/ArraysSupport"), (0, u "LOG2_ARRAY_LONG_INDEX_SCALE"), (0, u "I"), (2, u "U"), (0, u "Ljdk/internal/misc/Unsafe;"), (8, u "BIG_ENDIAN"), (0, u "Z"), (8, u "LOG2_BYTE_BIT_SIZE"), (4, u "LOG2_ARRAY_INT_INDEX_SCALE"), (54, u "JLA"), (0, u "Ljdk/internal/access/JavaLangAccess;"), (11, u "LOG2_ARRAY_BOOLEAN_INDEX_SCALE"), (9, u "LOG2_ARRAY_BYTE_INDEX_SCALE"), (5, u "LOG2_ARRAY_CHAR_INDEX_SCALE"), (5, u "LOG2_ARRAY_SHORT_INDEX_SCALE"), (18, u "LOG2_ARRAY_FLOAT_INDEX_SCALE"), (24, u "LOG2_ARRAY_DOUBLE_INDEX_SCALE"), (89, u "T_BOOLEAN"), (2, u "T_CHAR"), (1, u "T_FLOAT"), (1, u "T_DOUBLE"), (1, u "T_BYTE"), (1, u "T_SHORT"), (1, u "T_INT"), (1, u "T_LONG"), (1, u "SOFT_MAX_ARRAY_LENGTH")] 83

def k23m0 : Method := { name := "<init>", desc := "()V", sig := { parameters := [], returnType := none }, accessFlags := 2, code := none }
/-- jdk/internal/util/ArraysSupport -/
def k23 : Class := { plain "jdk/internal/util/ArraysSupport" (some 0) with
  accessFlags := 33
  interfaces := #[]
  cf := some (fileOf pool23 21 #[] #[{ accessFlags := 2, nameIndex := 9, descriptorIndex := 19, attributes := #[] }] 33 16 #[] #[{ accessFlags := 24, nameIndex := 28, descriptorIndex := 29, attributes := #[] }, { accessFlags := 26, nameIndex := 38, descriptorIndex := 39, attributes := #[] }, { accessFlags := 25, nameIndex := 121, descriptorIndex := 25, attributes := #[] }, { accessFlags := 25, nameIndex := 131, descriptorIndex := 25, attributes := #[] }, { accessFlags := 25, nameIndex := 137, descriptorIndex := 25, attributes := #[] }, { accessFlags := 25, nameIndex := 143, descriptorIndex := 25, attributes := #[] }, { accessFlags := 25, nameIndex := 53, descriptorIndex := 25, attributes := #[] }, { accessFlags := 25, nameIndex := 24, descriptorIndex := 25, attributes := #[] }, { accessFlags := 25, nameIndex := 162, descriptorIndex := 25, attributes := #[] }, { accessFlags := 25, nameIndex := 187, descriptorIndex := 25, attributes := #[] }, { accessFlags := 26, nameIndex := 48, descriptorIndex := 25, attributes := #[] }, { accessFlags := 25, nameIndex := 277, descriptorIndex := 25, attributes := #[] }, { accessFlags := 25, nameIndex := 280, descriptorIndex := 25, attributes := #[] }, { accessFlags := 25, nameIndex := 282, descriptorIndex := 25, attributes := #[] }, { accessFlags := 25, nameIndex := 284, descriptorIndex := 25, attributes := #[] }, { accessFlags := 25, nameIndex := 286, descriptorIndex := 25, attributes := #[] }, { accessFlags := 25, nameIndex := 288, descriptorIndex := 25, attributes := #[] }, { accessFlags := 25, nameIndex := 290, descriptorIndex := 25, attributes := #[] }, { accessFlags := 25, nameIndex := 292, descriptorIndex := 25, attributes := #[] }, { accessFlags := 26, nameIndex := 108, descriptorIndex := 109, attributes := #[] }, { accessFlags := 25, nameIndex := 294, descriptorIndex := 25, attributes := #[] }])
  fields := #[{ name := "U", type := (.object "jdk/internal/misc/Unsafe"), accessFlags := 24, slot := 0, constantValue := 0 }, { name := "BIG_ENDIAN", type := .boolean, accessFlags := 26, slot := 1, constantValue := 0 }, { name := "LOG2_ARRAY_BOOLEAN_INDEX_SCALE", type := .int, accessFlags := 25, slot := 2, constantValue := 0 }, { name := "LOG2_ARRAY_BYTE_INDEX_SCALE", type := .int, accessFlags := 25, slot := 3, constantValue := 0 }, { name := "LOG2_ARRAY_CHAR_INDEX_SCALE", type := .int, accessFlags := 25, slot := 4, constantValue := 0 }, { name := "LOG2_ARRAY_SHORT_INDEX_SCALE", type := .int, accessFlags := 25, slot := 5, constantValue := 0 }, { name := "LOG2_ARRAY_INT_INDEX_SCALE", type := .int, accessFlags := 25, slot := 6, constantValue := 0 }, { name := "LOG2_ARRAY_LONG_INDEX_SCALE", type := .int, accessFlags := 25, slot := 7, constantValue := 0 }, { name := "LOG2_ARRAY_FLOAT_INDEX_SCALE", type := .int, accessFlags := 25, slot := 8, constantValue := 0 }, { name := "LOG2_ARRAY_DOUBLE_INDEX_SCALE", type := .int, accessFlags := 25, slot := 9, constantValue := 0 }, { name := "LOG2_BYTE_BIT_SIZE", type := .int, accessFlags := 26, slot := 10, constantValue := 0 }, { name := "T_BOOLEAN", type := .int, accessFlags := 25, slot := 11, constantValue := 0 }, { name := "T_CHAR", type := .int, accessFlags := 25, slot := 12, constantValue := 0 }, { name := "T_FLOAT", type := .int, accessFlags := 25, slot := 13, constantValue := 0 }, { name := "T_DOUBLE", type := .int, accessFlags := 25, slot := 14, constantValue := 0 }, { name := "T_BYTE", type := .int, accessFlags := 25, slot := 15, constantValue := 0 }, { name := "T_SHORT", type := .int, accessFlags := 25, slot := 16, constantValue := 0 }, { name := "T_INT", type := .int, accessFlags := 25, slot := 17, constantValue := 0 }, { name := "T_LONG", type := .int, accessFlags := 25, slot := 18, constantValue := 0 }, { name := "JLA", type := (.object "jdk/internal/access/JavaLangAccess"), accessFlags := 26, slot := 19, constantValue := 0 }, { name := "SOFT_MAX_ARRAY_LENGTH", type := .int, accessFlags := 25, slot := 20, constantValue := 0 }]
  methods := #[k23m0]
  instanceTypes := #[]
  staticTypes := #[(.object "jdk/internal/misc/Unsafe"), .boolean, .int, .int, .int, .int, .int, .int, .int, .int, .int, .int, .int, .int, .int, .int, .int, .int, .int, (.object "jdk/internal/access/JavaLangAccess"), .int]
  resolved := Array.replicate 378 none
  statics := none }

/-- the primitive byte -/
def k24 : Class := { plain "byte" none with kind := .primitive 'B', accessFlags := 0x411 }
/-- [B -/
def k25 : Class := { plain "[B" (some 0) with kind := .array 24 .byte, interfaces := #[17, 2], accessFlags := 1041 }

/-- the primitive char -/
def k26 : Class := { plain "char" none with kind := .primitive 'C', accessFlags := 0x411 }
/-- [C -/
def k27 : Class := { plain "[C" (some 0) with kind := .array 26 .char, interfaces := #[17, 2], accessFlags := 1041 }

/-- the primitive int -/
def k28 : Class := { plain "int" none with kind := .primitive 'I', accessFlags := 0x411 }
/-- [I -/
def k29 : Class := { plain "[I" (some 0) with kind := .array 28 .int, interfaces := #[17, 2], accessFlags := 1041 }

/-- [Ljava/lang/Object; -/
def k30 : Class := { plain "[Ljava/lang/Object;" (some 0) with kind := .array 0 (.object "java/lang/Object"), interfaces := #[17, 2], accessFlags := 1041 }

def heap : Heap := #[{ cls := 7, slots := #[.long 0, .int 1, .null, .int 0, .null, .int 0, .int 0], vm := .statics 7 },
  { cls := 18, slots := #[.long 0, .int 0, .ref 3, .ref 4], vm := .statics 18 },
  { cls := 22, slots := #[.null, .null, .null], vm := .statics 22 },
  { cls := 30, slots := #[], vm := .none },
  { cls := 30, slots := #[], vm := .none }]
def classes : Array Class := #[k0, k1, k2, k3, k4, k5, k6, k7, k8, k9, k10, k11, k12, k13, k14, k15, k16, k17, k18, k19, k20, k21, k22, k23, k24, k25, k26, k27, k28, k29, k30]
def interned : List (Array UInt16 × Addr) := []
def slotsUsed : Nat := 14
def theMethod : MethodId := ⟨1, 2⟩
def args0 : Array Value := #[.int 5, .int 5, .int 5, .int 5]
def aboutOver (below : List Frame) : State where
  vm := { classes := classes, interned := interned.toArray }
  heap := heap
  slotsUsed := slotsUsed
  threads := #[{ frames := .invoking theMethod args0 :: below }]
def below0 : List Frame := [.native { method := ⟨0, 0⟩, args := #[] }]
def about1 : State := aboutOver below0
def p0 : Program := .bare "" "" ""
def e0 : Env := launch0.env 0 0 0
theorem w_frames : about1.frames = Frame.invoking theMethod args0 :: below0 := rfl
set_option maxRecDepth 65536 in
theorem w_args : argsFit about1.vm theMethod args0 = true := by decide +kernel
set_option maxRecDepth 65536 in
theorem w_heap : heapFits about1 = true := by decide +kernel
set_option maxRecDepth 65536 in
theorem w_runnable : about1.curStatus? = some .runnable := by decide +kernel
set_option maxRecDepth 65536 in
theorem w_alone : about1.alone = true := by decide +kernel
set_option maxRecDepth 65536 in
theorem w_named : about1.methodNamed? x = some theMethod := by decide +kernel
set_option maxRecDepth 65536 in
theorem w_hears : about1.hears theMethod below0 = true := by decide +kernel
set_option maxRecDepth 65536 in
theorem w_ripe : about1.ripe theMethod args0 below0 = true := by decide +kernel
theorem w_running : about1.status = .running := rfl
set_option maxRecDepth 65536 in
theorem w_room : about1.hasRoom e0.platform room_1 = true :=
  launch0.hasRoom_least _ room_1 (by decide +kernel) (by decide +kernel) (by decide +kernel) (by decide +kernel) (by decide +kernel) (by decide +kernel)
theorem allAtoms_all (ts : List Jvm.Cond) (a : Array Jvm.Value) (st : Jvm.State) : (allAtoms ts).before a st = ts.all (fun c => c.before a st) := by
  induction ts with
  | nil => rfl
  | cons c t ih =>
    show (Jvm.Cond.and c (allAtoms t)).before a st = _
    rw [Jvm.Cond.before_and, ih, List.all_cons]
def words1 : List Jvm.Cond := Jvm.Cond.code x code maxLocals ret :: tables_1
/-- a 'code' word, met by the world's own term for the bytes: nothing is compared byte by byte -/
theorem code_word {y : MethodName} {bytes : ByteArray} {mx : Nat} {rt : Option FieldType} {a : Array Value} {s : State} {m : MethodId} {meth : Method} {c : Code} (h1 : s.methodNamed? y = some m) (h2 : s.vm.method? m = some meth) (h3 : meth.code = some c) (h4 : c.code = bytes)
    (h5 : (c.maxLocals == mx && c.exceptionTable.isEmpty && decide (c.maxStack ≤ mostOperands) && decide (meth.sig.returnType = rt) && !meth.locks && decide (parseMethodDescriptor y.desc = some meth.sig)) = true) : (Jvm.Cond.code y bytes mx rt).before a s = true := by
  simp only [Bool.and_eq_true, beq_iff_eq, Bool.not_eq_true', decide_eq_true_eq] at h5
  obtain ⟨⟨⟨⟨⟨g1, g2⟩, g3⟩, g4⟩, g5⟩, g6⟩ := h5
  simp [Cond.before, Cond.holds, Cond.value, h1, h2, h3, h4, g1, g2, g3, g4, g5, g6]
def isCode : Jvm.Cond → Bool
  | .code _ _ _ _ => true
  | _ => false
theorem all_split {L : List Jvm.Cond} {P : Jvm.Cond → Bool} (h1 : L.all (fun c => isCode c || P c) = true) (h2 : ∀ c ∈ L.filter isCode, P c = true) : L.all P = true := by
  refine List.all_eq_true.mpr fun c hc => ?_
  have h := List.all_eq_true.mp h1 c hc
  rcases Bool.eq_false_or_eq_true (isCode c) with hi | hi
  · exact h2 c (List.mem_filter.mpr ⟨hc, hi⟩)
  · simpa [hi] using h
set_option maxRecDepth 65536 in
theorem w_c0 : (Jvm.Cond.code x code maxLocals ret).before args0 about1 = true := code_word (m := ⟨1, 2⟩) (meth := k1m2) (c := k1c2) (by decide +kernel) rfl rfl rfl (by decide +kernel)
set_option maxRecDepth 65536 in
theorem w_c1 : (Jvm.Cond.code ({ cls := "com/example/sitemark/sitemark/FeatureIdentifiedPinLaw", name := "str", desc := "(I)Ljava/lang/String;" } : Jvm.MethodName) method_2_code (4 : Nat) (Option.some (Jvm.ClassFile.FieldType.object "java/lang/String"))).before args0 about1 = true := code_word (m := ⟨1, 1⟩) (meth := k1m1) (c := k1c1) (by decide +kernel) rfl rfl rfl (by decide +kernel)
set_option maxRecDepth 65536 in
theorem w_c2 : (Jvm.Cond.code ({ cls := "java/lang/String", name := "<init>", desc := "([C)V" } : Jvm.MethodName) jdk_42_method_3_code (2 : Nat) (Option.none : Option Jvm.ClassFile.FieldType)).before args0 about1 = true := code_word (m := ⟨7, 1⟩) (meth := k7m1) (c := k7c1) (by decide +kernel) rfl rfl rfl (by decide +kernel)
set_option maxRecDepth 65536 in
theorem w_c3 : (Jvm.Cond.code ({ cls := "java/lang/String", name := "<init>", desc := "([CIILjava/lang/Void;)V" } : Jvm.MethodName) jdk_42_method_149_code (6 : Nat) (Option.none : Option Jvm.ClassFile.FieldType)).before args0 about1 = true := code_word (m := ⟨7, 3⟩) (meth := k7m3) (c := k7c3) (by decide +kernel) rfl rfl rfl (by decide +kernel)
set_option maxRecDepth 65536 in
theorem w_c4 : (Jvm.Cond.code ({ cls := "java/lang/Object", name := "<init>", desc := "()V" } : Jvm.MethodName) object_method_1_code (1 : Nat) (Option.none : Option Jvm.ClassFile.FieldType)).before args0 about1 = true := code_word (m := ⟨0, 0⟩) (meth := k0m0) (c := k0c0) (by decide +kernel) rfl rfl rfl (by decide +kernel)
set_option maxRecDepth 65536 in
theorem w_c5 : (Jvm.Cond.code ({ cls := "java/lang/StringUTF16", name := "compress", desc := "([CII)[B" } : Jvm.MethodName) jdk_52_method_16_code (6 : Nat) (Option.some (Jvm.ClassFile.FieldType.array Jvm.ClassFile.FieldType.byte))).before args0 about1 = true := code_word (m := ⟨8, 2⟩) (meth := k8m2) (c := k8c2) (by decide +kernel) rfl rfl rfl (by decide +kernel)
set_option maxRecDepth 65536 in
theorem w_c6 : (Jvm.Cond.code ({ cls := "java/lang/StringUTF16", name := "compress", desc := "([CI[BII)I" } : Jvm.MethodName) jdk_52_method_21_code (7 : Nat) (Option.some Jvm.ClassFile.FieldType.int)).before args0 about1 = true := code_word (m := ⟨8, 3⟩) (meth := k8m3) (c := k8c3) (by decide +kernel) rfl rfl rfl (by decide +kernel)
set_option maxRecDepth 65536 in
theorem w_c7 : (Jvm.Cond.code ({ cls := "java/lang/StringUTF16", name := "coderFromArrayLen", desc := "([BI)B" } : Jvm.MethodName) jdk_52_method_15_code (2 : Nat) (Option.some Jvm.ClassFile.FieldType.byte)).before args0 about1 = true := code_word (m := ⟨8, 1⟩) (meth := k8m1) (c := k8c1) (by decide +kernel) rfl rfl rfl (by decide +kernel)
set_option maxRecDepth 65536 in
theorem w_c8 : (Jvm.Cond.code ({ cls := "java/lang/String", name := "valueOf", desc := "(C)Ljava/lang/String;" } : Jvm.MethodName) jdk_42_method_139_code (1 : Nat) (Option.some (Jvm.ClassFile.FieldType.object "java/lang/String"))).before args0 about1 = true := code_word (m := ⟨7, 2⟩) (meth := k7m2) (c := k7c2) (by decide +kernel) rfl rfl rfl (by decide +kernel)
set_option maxRecDepth 65536 in
theorem w_c9 : (Jvm.Cond.code ({ cls := "java/lang/StringLatin1", name := "canEncode", desc := "(C)Z" } : Jvm.MethodName) jdk_43_method_3_code (1 : Nat) (Option.some Jvm.ClassFile.FieldType.boolean)).before args0 about1 = true := code_word (m := ⟨9, 1⟩) (meth := k9m1) (c := k9c1) (by decide +kernel) rfl rfl rfl (by decide +kernel)
set_option maxRecDepth 65536 in
theorem w_c10 : (Jvm.Cond.code ({ cls := "java/lang/StringLatin1", name := "toBytes", desc := "(C)[B" } : Jvm.MethodName) jdk_43_method_46_code (1 : Nat) (Option.some (Jvm.ClassFile.FieldType.array Jvm.ClassFile.FieldType.byte))).before args0 about1 = true := code_word (m := ⟨9, 2⟩) (meth := k9m2) (c := k9c2) (by decide +kernel) rfl rfl rfl (by decide +kernel)
set_option maxRecDepth 65536 in
theorem w_c11 : (Jvm.Cond.code ({ cls := "java/lang/String", name := "<init>", desc := "([BB)V" } : Jvm.MethodName) jdk_42_method_151_code (3 : Nat) (Option.none : Option Jvm.ClassFile.FieldType)).before args0 about1 = true := code_word (m := ⟨7, 4⟩) (meth := k7m4) (c := k7c4) (by decide +kernel) rfl rfl rfl (by decide +kernel)
set_option maxRecDepth 65536 in
theorem w_c12 : (Jvm.Cond.code ({ cls := "java/util/ArrayList", name := "<init>", desc := "()V" } : Jvm.MethodName) jdk_38_method_2_code (1 : Nat) (Option.none : Option Jvm.ClassFile.FieldType)).before args0 about1 = true := code_word (m := ⟨18, 0⟩) (meth := k18m0) (c := k18c0) (by decide +kernel) rfl rfl rfl (by decide +kernel)
set_option maxRecDepth 65536 in
theorem w_c13 : (Jvm.Cond.code ({ cls := "java/util/AbstractList", name := "<init>", desc := "()V" } : Jvm.MethodName) jdk_39_method_1_code (1 : Nat) (Option.none : Option Jvm.ClassFile.FieldType)).before args0 about1 = true := code_word (m := ⟨15, 0⟩) (meth := k15m0) (c := k15c0) (by decide +kernel) rfl rfl rfl (by decide +kernel)
set_option maxRecDepth 65536 in
theorem w_c14 : (Jvm.Cond.code ({ cls := "java/util/AbstractCollection", name := "<init>", desc := "()V" } : Jvm.MethodName) jdk_22_method_1_code (1 : Nat) (Option.none : Option Jvm.ClassFile.FieldType)).before args0 about1 = true := code_word (m := ⟨12, 0⟩) (meth := k12m0) (c := k12c0) (by decide +kernel) rfl rfl rfl (by decide +kernel)
set_option maxRecDepth 65536 in
theorem w_c15 : (Jvm.Cond.code ({ cls := "com/example/sitemark/sitemark/SiteMap$Feature", name := "<init>", desc := "(Ljava/lang/String;Ljava/lang/String;Ljava/lang/String;ZLjava/util/List;Ljava/lang/String;Ljava/lang/String;Ljava/lang/String;Ljava/lang/String;)V" } : Jvm.MethodName) prog_46_method_1_code (10 : Nat) (Option.none : Option Jvm.ClassFile.FieldType)).before args0 about1 = true := code_word (m := ⟨20, 0⟩) (meth := k20m0) (c := k20c0) (by decide +kernel) rfl rfl rfl (by decide +kernel)
set_option maxRecDepth 65536 in
theorem w_c16 : (Jvm.Cond.code ({ cls := "java/lang/Record", name := "<init>", desc := "()V" } : Jvm.MethodName) jdk_30_method_1_code (1 : Nat) (Option.none : Option Jvm.ClassFile.FieldType)).before args0 about1 = true := code_word (m := ⟨19, 0⟩) (meth := k19m0) (c := k19c0) (by decide +kernel) rfl rfl rfl (by decide +kernel)
set_option maxRecDepth 65536 in
theorem w_c17 : (Jvm.Cond.code ({ cls := "com/example/sitemark/sitemark/SiteMap$Feature", name := "identified", desc := "()Z" } : Jvm.MethodName) prog_46_method_2_code (1 : Nat) (Option.some Jvm.ClassFile.FieldType.boolean)).before args0 about1 = true := code_word (m := ⟨20, 1⟩) (meth := k20m1) (c := k20c1) (by decide +kernel) rfl rfl rfl (by decide +kernel)
set_option maxRecDepth 65536 in
theorem w_c18 : (Jvm.Cond.code ({ cls := "java/util/ArrayList", name := "add", desc := "(Ljava/lang/Object;)Z" } : Jvm.MethodName) jdk_38_method_25_code (2 : Nat) (Option.some Jvm.ClassFile.FieldType.boolean)).before args0 about1 = true := code_word (m := ⟨18, 4⟩) (meth := k18m4) (c := k18c4) (by decide +kernel) rfl rfl rfl (by decide +kernel)
set_option maxRecDepth 65536 in
theorem w_c19 : (Jvm.Cond.code ({ cls := "java/util/ArrayList", name := "add", desc := "(Ljava/lang/Object;[Ljava/lang/Object;I)V" } : Jvm.MethodName) jdk_38_method_24_code (4 : Nat) (Option.none : Option Jvm.ClassFile.FieldType)).before args0 about1 = true := code_word (m := ⟨18, 3⟩) (meth := k18m3) (c := k18c3) (by decide +kernel) rfl rfl rfl (by decide +kernel)
set_option maxRecDepth 65536 in
theorem w_c20 : (Jvm.Cond.code ({ cls := "java/util/ArrayList", name := "grow", desc := "()[Ljava/lang/Object;" } : Jvm.MethodName) jdk_38_method_7_code (1 : Nat) (Option.some (Jvm.ClassFile.FieldType.array (Jvm.ClassFile.FieldType.object "java/lang/Object")))).before args0 about1 = true := code_word (m := ⟨18, 2⟩) (meth := k18m2) (c := k18c2) (by decide +kernel) rfl rfl rfl (by decide +kernel)
set_option maxRecDepth 65536 in
theorem w_c21 : (Jvm.Cond.code ({ cls := "java/util/ArrayList", name := "grow", desc := "(I)[Ljava/lang/Object;" } : Jvm.MethodName) jdk_38_method_6_code (4 : Nat) (Option.some (Jvm.ClassFile.FieldType.array (Jvm.ClassFile.FieldType.object "java/lang/Object")))).before args0 about1 = true := code_word (m := ⟨18, 1⟩) (meth := k18m1) (c := k18c1) (by decide +kernel) rfl rfl rfl (by decide +kernel)
set_option maxRecDepth 65536 in
theorem w_c22 : (Jvm.Cond.code ({ cls := "java/lang/Math", name := "max", desc := "(II)I" } : Jvm.MethodName) jdk_29_method_65_code (2 : Nat) (Option.some Jvm.ClassFile.FieldType.int)).before args0 about1 = true := code_word (m := ⟨21, 1⟩) (meth := k21m1) (c := k21c1) (by decide +kernel) rfl rfl rfl (by decide +kernel)
def codes1 : List Jvm.Cond := [Jvm.Cond.code x code maxLocals ret, Jvm.Cond.code ({ cls := "com/example/sitemark/sitemark/FeatureIdentifiedPinLaw", name := "str", desc := "(I)Ljava/lang/String;" } : Jvm.MethodName) method_2_code (4 : Nat) (Option.some (Jvm.ClassFile.FieldType.object "java/lang/String")), Jvm.Cond.code ({ cls := "java/lang/String", name := "<init>", desc := "([C)V" } : Jvm.MethodName) jdk_42_method_3_code (2 : Nat) (Option.none : Option Jvm.ClassFile.FieldType), Jvm.Cond.code ({ cls := "java/lang/String", name := "<init>", desc := "([CIILjava/lang/Void;)V" } : Jvm.MethodName) jdk_42_method_149_code (6 : Nat) (Option.none : Option Jvm.ClassFile.FieldType), Jvm.Cond.code ({ cls := "java/lang/Object", name := "<init>", desc := "()V" } : Jvm.MethodName) object_method_1_code (1 : Nat) (Option.none : Option Jvm.ClassFile.FieldType), Jvm.Cond.code ({ cls := "java/lang/StringUTF16", name := "compress", desc := "([CII)[B" } : Jvm.MethodName) jdk_52_method_16_code (6 : Nat) (Option.some (Jvm.ClassFile.FieldType.array Jvm.ClassFile.FieldType.byte)), Jvm.Cond.code ({ cls := "java/lang/StringUTF16", name := "compress", desc := "([CI[BII)I" } : Jvm.MethodName) jdk_52_method_21_code (7 : Nat) (Option.some Jvm.ClassFile.FieldType.int), Jvm.Cond.code ({ cls := "java/lang/StringUTF16", name := "coderFromArrayLen", desc := "([BI)B" } : Jvm.MethodName) jdk_52_method_15_code (2 : Nat) (Option.some Jvm.ClassFile.FieldType.byte), Jvm.Cond.code ({ cls := "java/lang/String", name := "valueOf", desc := "(C)Ljava/lang/String;" } : Jvm.MethodName) jdk_42_method_139_code (1 : Nat) (Option.some (Jvm.ClassFile.FieldType.object "java/lang/String")), Jvm.Cond.code ({ cls := "java/lang/StringLatin1", name := "canEncode", desc := "(C)Z" } : Jvm.MethodName) jdk_43_method_3_code (1 : Nat) (Option.some Jvm.ClassFile.FieldType.boolean), Jvm.Cond.code ({ cls := "java/lang/StringLatin1", name := "toBytes", desc := "(C)[B" } : Jvm.MethodName) jdk_43_method_46_code (1 : Nat) (Option.some (Jvm.ClassFile.FieldType.array Jvm.ClassFile.FieldType.byte)), Jvm.Cond.code ({ cls := "java/lang/String", name := "<init>", desc := "([BB)V" } : Jvm.MethodName) jdk_42_method_151_code (3 : Nat) (Option.none : Option Jvm.ClassFile.FieldType), Jvm.Cond.code ({ cls := "java/util/ArrayList", name := "<init>", desc := "()V" } : Jvm.MethodName) jdk_38_method_2_code (1 : Nat) (Option.none : Option Jvm.ClassFile.FieldType), Jvm.Cond.code ({ cls := "java/util/AbstractList", name := "<init>", desc := "()V" } : Jvm.MethodName) jdk_39_method_1_code (1 : Nat) (Option.none : Option Jvm.ClassFile.FieldType), Jvm.Cond.code ({ cls := "java/util/AbstractCollection", name := "<init>", desc := "()V" } : Jvm.MethodName) jdk_22_method_1_code (1 : Nat) (Option.none : Option Jvm.ClassFile.FieldType), Jvm.Cond.code ({ cls := "com/example/sitemark/sitemark/SiteMap$Feature", name := "<init>", desc := "(Ljava/lang/String;Ljava/lang/String;Ljava/lang/String;ZLjava/util/List;Ljava/lang/String;Ljava/lang/String;Ljava/lang/String;Ljava/lang/String;)V" } : Jvm.MethodName) prog_46_method_1_code (10 : Nat) (Option.none : Option Jvm.ClassFile.FieldType), Jvm.Cond.code ({ cls := "java/lang/Record", name := "<init>", desc := "()V" } : Jvm.MethodName) jdk_30_method_1_code (1 : Nat) (Option.none : Option Jvm.ClassFile.FieldType), Jvm.Cond.code ({ cls := "com/example/sitemark/sitemark/SiteMap$Feature", name := "identified", desc := "()Z" } : Jvm.MethodName) prog_46_method_2_code (1 : Nat) (Option.some Jvm.ClassFile.FieldType.boolean), Jvm.Cond.code ({ cls := "java/util/ArrayList", name := "add", desc := "(Ljava/lang/Object;)Z" } : Jvm.MethodName) jdk_38_method_25_code (2 : Nat) (Option.some Jvm.ClassFile.FieldType.boolean), Jvm.Cond.code ({ cls := "java/util/ArrayList", name := "add", desc := "(Ljava/lang/Object;[Ljava/lang/Object;I)V" } : Jvm.MethodName) jdk_38_method_24_code (4 : Nat) (Option.none : Option Jvm.ClassFile.FieldType), Jvm.Cond.code ({ cls := "java/util/ArrayList", name := "grow", desc := "()[Ljava/lang/Object;" } : Jvm.MethodName) jdk_38_method_7_code (1 : Nat) (Option.some (Jvm.ClassFile.FieldType.array (Jvm.ClassFile.FieldType.object "java/lang/Object"))), Jvm.Cond.code ({ cls := "java/util/ArrayList", name := "grow", desc := "(I)[Ljava/lang/Object;" } : Jvm.MethodName) jdk_38_method_6_code (4 : Nat) (Option.some (Jvm.ClassFile.FieldType.array (Jvm.ClassFile.FieldType.object "java/lang/Object"))), Jvm.Cond.code ({ cls := "java/lang/Math", name := "max", desc := "(II)I" } : Jvm.MethodName) jdk_29_method_65_code (2 : Nat) (Option.some Jvm.ClassFile.FieldType.int)]
set_option maxRecDepth 65536 in
theorem codes_eq : words1.filter isCode = codes1 := rfl
theorem w_codes : ∀ c ∈ words1.filter isCode, c.before args0 about1 = true := by
  rw [codes_eq]
  intro c hc
  simp only [codes1, List.mem_cons, List.not_mem_nil, or_false] at hc
  rcases hc with rfl | rfl | rfl | rfl | rfl | rfl | rfl | rfl | rfl | rfl | rfl | rfl | rfl | rfl | rfl | rfl | rfl | rfl | rfl | rfl | rfl | rfl | rfl
  · exact w_c0
  · exact w_c1
  · exact w_c2
  · exact w_c3
  · exact w_c4
  · exact w_c5
  · exact w_c6
  · exact w_c7
  · exact w_c8
  · exact w_c9
  · exact w_c10
  · exact w_c11
  · exact w_c12
  · exact w_c13
  · exact w_c14
  · exact w_c15
  · exact w_c16
  · exact w_c17
  · exact w_c18
  · exact w_c19
  · exact w_c20
  · exact w_c21
  · exact w_c22
set_option maxRecDepth 65536 in
theorem w_t1 : (words1.take 24).all (fun c => isCode c || c.before args0 about1) = true := by decide +kernel
set_option maxRecDepth 65536 in
theorem w_t2 : ((words1.drop 24).take 24).all (fun c => isCode c || c.before args0 about1) = true := by decide +kernel
set_option maxRecDepth 65536 in
theorem w_t3 : (((words1.drop 24).drop 24).take 24).all (fun c => isCode c || c.before args0 about1) = true := by decide +kernel
set_option maxRecDepth 65536 in
theorem w_t4 : ((((words1.drop 24).drop 24).drop 24).take 24).all (fun c => isCode c || c.before args0 about1) = true := by decide +kernel
set_option maxRecDepth 65536 in
theorem w_t5 : (((((words1.drop 24).drop 24).drop 24).drop 24).take 24).all (fun c => isCode c || c.before args0 about1) = true := by decide +kernel
set_option maxRecDepth 65536 in
theorem w_t6 : ((((((words1.drop 24).drop 24).drop 24).drop 24).drop 24).take 24).all (fun c => isCode c || c.before args0 about1) = true := by decide +kernel
set_option maxRecDepth 65536 in
theorem w_t7 : ((((((words1.drop 24).drop 24).drop 24).drop 24).drop 24).drop 24).all (fun c => isCode c || c.before args0 about1) = true := by decide +kernel
theorem w_tables : (allAtoms (Jvm.Cond.code x code maxLocals ret :: tables_1)).before args0 about1 = true := by
  rw [allAtoms_all]
  show words1.all (fun c => c.before args0 about1) = true
  refine all_split ?_ w_codes
  rw [← List.take_append_drop 24 words1, List.all_append, w_t1, ← List.take_append_drop 24 (words1.drop 24), List.all_append, w_t2, ← List.take_append_drop 24 ((words1.drop 24).drop 24), List.all_append, w_t3, ← List.take_append_drop 24 (((words1.drop 24).drop 24).drop 24), List.all_append, w_t4, ← List.take_append_drop 24 ((((words1.drop 24).drop 24).drop 24).drop 24), List.all_append, w_t5, ← List.take_append_drop 24 (((((words1.drop 24).drop 24).drop 24).drop 24).drop 24), List.all_append, w_t6, w_t7]
  rfl
set_option maxRecDepth 65536 in
theorem w_rest : rest_1_c.before args0 about1 = true := by decide +kernel
set_option maxRecDepth 65536 in
theorem w_case : (Jvm.Cond.and given_1 narrow_1).before args0 about1 = true := by decide +kernel
set_option maxRecDepth 65536 in
theorem w_consts : constsHeld consts_1 about1 := Jvm.Lit.constsHeldB_iff.mp (by decide +kernel)
theorem w_applies : (headSpec (Jvm.Cond.code x code maxLocals ret :: tables_1) room_1).applies x e0.platform about1 = true :=
  (Spec.applies_iff w_frames).mpr ⟨w_running, w_runnable, w_alone, w_named, w_hears, w_ripe, w_room, w_tables⟩
theorem atStart : AtStart classFile x code maxLocals ret World_1 tables_1 room_1 Calls_1 rest_1 Pre_1 launch0 p0 e0 about1 theMethod args0 below0 :=
  ⟨lists_1, trivial, launch0.admits_env _ _ _, launch0.least_env, fairChoices_fair.cas, fairChoices_fair.clock, w_frames, w_args, w_heap, w_applies, ⟨w_consts, trivial⟩, w_rest, w_case⟩
end start1
theorem witness_1 : WitnessClaimed_1 := ⟨start1.p0, start1.e0, start1.about1, start1.theMethod, start1.args0, start1.below0, start1.atStart⟩
end Jvm.Pilot.@@N@@
